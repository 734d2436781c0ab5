/- The contract of spec.Struck. -/
import Derived.Test.YtnaedpfaeioolaaYl
import Derived.Test.YtnaedpfaeioolaaXc
namespace Go.Proofs.Ytnaedpfaeioolaa
open Go.RowKit
set_option linter.unusedVariables false

/-- A basic type is in the place of those that are struck. -/
def stF (bl : Nat → Bool) (i : Nat) (d : D) : D := if bl i = true then ⟨d.alias, .mk 0 0 []⟩ else d
def stD (bl : Nat → Bool) (ds : List D) : List D := ds.mapIdx (stF bl)

theorem stD_len (bl : Nat → Bool) (ds : List D) : (stD bl ds).length = ds.length := by simp [stD]
theorem stD_al (bl : Nat → Bool) (ds : List D) : alOf (stD bl ds) = alOf ds := by
  funext n
  unfold alOf stD
  rw [List.getD_eq_getElem?_getD, List.getD_eq_getElem?_getD, List.getElem?_mapIdx]
  cases ds[n]? with
  | none => rfl
  | some d => simp only [Option.map_some, Option.getD_some]; unfold stF; split <;> rfl
theorem stD_of (bl : Nat → Bool) (ds : List D) (n : Nat) (hn : n < ds.length) : ofOf (stD bl ds) n = if bl n = true then .mk 0 0 [] else ofOf ds n := by
  unfold ofOf stD
  rw [List.getD_eq_getElem?_getD, List.getD_eq_getElem?_getD, List.getElem?_mapIdx, List.getElem?_eq_getElem hn]
  simp only [Option.map_some, Option.getD_some]
  unfold stF
  split <;> rfl

theorem fmc {α β : Type} {l : List α} {f g : α → List β} (h : ∀ a ∈ l, f a = g a) : l.flatMap f = l.flatMap g := by
  induction l with
  | nil => rfl
  | cons a l ih => rw [List.flatMap_cons, List.flatMap_cons, h a (by simp), ih fun b hb => h b (by simp [hb])]

theorem st_flat {ds : List D} (hds : DOk ds) {bl : Nat → Bool} (hb : ∀ n, bl n = true → alOf ds n = false) : ∀ (f : Nat) (t : T), Ok ds.length t → flatF (stD bl ds) f t = flatF ds f t := by
  intro f
  induction f with
  | zero =>
    intro t h
    induction h with
    | mk k n es h0 h6 h3 hn ha he ih =>
      rw [flatF.eq_def, flatF.eq_def ds]
      simp only [stD_al]
      split
      · rfl
      · split
        · exact fmc fun e he => ih e he
        · rfl
  | succ f ihf =>
    intro t h
    induction h with
    | mk k n es h0 h6 h3 hn ha he ih =>
      rw [flatF.eq_def, flatF.eq_def ds]
      simp only [stD_al]
      split
      · rename_i h1
        have hnn := hn h1
        split
        · rename_i h2
          rw [stD_of bl ds _ (by omega), if_neg (fun h => by rw [hb _ h] at h2; cases h2)]
          exact ihf _ (hds.of (by omega))
        · rfl
      · split
        · exact fmc fun e he => ih e he
        · rfl
theorem st_G {ds : List D} (hds : DOk ds) {bl : Nat → Bool} (hb : ∀ n, bl n = true → alOf ds n = false) {n : Nat} (hn : n < ds.length) : GG (stD bl ds) n = if bl n = true then [] else GG ds n := by
  unfold GG
  rw [stD_of bl ds n hn, stD_len]
  split
  · exact flatF_none _ _ _ _ _ (Or.inl rfl)
  · exact st_flat hds hb _ _ (hds.of hn)

theorem st_ok {ds : List D} (hds : DOk ds) (bl : Nat → Bool) : DOk (stD bl ds) := by
  have hget : ∀ (i : Nat) (d : D), (stD bl ds)[i]? = some d → ∃ d0, ds[i]? = some d0 ∧ d = stF bl i d0 := by
    intro i d h
    unfold stD at h
    rw [List.getElem?_mapIdx] at h
    cases hq : ds[i]? with
    | none => rw [hq] at h; cases h
    | some d0 => rw [hq] at h; simp at h; exact ⟨d0, rfl, h.symm⟩
  refine ⟨fun d hd => ?_, fun i d hd ha => ?_⟩
  · obtain ⟨i, hi⟩ := List.mem_iff_getElem?.1 hd
    obtain ⟨d0, h1, rfl⟩ := hget i d hi
    rw [stD_len]
    unfold stF
    split
    · exact .mk 0 0 [] (by omega) (by omega) (by simp) (by omega) (by omega) (by simp)
    · exact hds.ok d0 (List.mem_of_getElem? h1)
  · obtain ⟨d0, h1, rfl⟩ := hget i d hd
    unfold stF at ha ⊢
    split
    · exact .mk 0 0 [] (by omega) (by simp)
    · rename_i h
      rw [if_neg h] at ha
      exact (hds.al i d0 h1 ha).congr (stD_al bl ds).symm

set_option maxHeartbeats 1000000 in
set_option maxRecDepth 100000 in
theorem struck_any (ds : List D) (hN : ds.length ≤ 100) (bl : Nat → Bool) (w : World) (a : Option Addr) (cap : Nat) (hc2 : cap ≤ 9223372036854775807) (hdv : DV w (.slice a ds.length cap) ds) (sa : Option Addr) (sc : Nat) (hs1 : ds.length ≤ sc) (hs2 : sc ≤ 9223372036854775807)
    (hsr : Row w sa (((List.range ds.length).map bl).map Value.bool)) :
    Calls Try.prog 29 #[.slice a ds.length cap, .slice sa ds.length sc] w fun e w' => ∃ v', e = .returned v' ∧ DV w' v' (stD bl ds) ∧ Below w.heap.size w w' := by
  have Hdv := Lib.hid hdv; clear hdv
  have Hsr := Lib.hid hsr; clear hsr
  go_enter Try.func29, Try.ntmps29
  go_wp2_with (at_builtin; refine wpList_copy w _ rfl (.tmp 7) (.tmp 8) 32 rfl Try.underlying32 Try.info47 w.heap.size _ rfl rfl (Nat.le_refl _) ((Below.refl _ _).alloc (Nat.le_refl _) _) (World.ownsRow_lit w #[] 0 (Nat.le_refl _) (Nat.zero_le _) rfl) ds Hdv.out (by omega) ?_)
  intro v w1 qs hk1 hb1
  obtain ⟨asv, csv, hsv, _, _, _⟩ := own_slice hk1.own
  subst hsv
  have H1 := Lib.hid hk1; clear hk1
  have Hb1 := Lib.hid hb1; clear hb1
  go_wp2_with fail
  go_loopw [12] (PLoop (stF bl) ds w (.slice asv ds.length csv)) (fun i _ => ds.length - (intOf i).toNat)
  case atStart => unfold PLoop; exact ⟨0, qs, Nat.zero_le _, rfl, by rw [pm_zero]; exact H1.out, Hb1.out⟩
  case round =>
    obtain ⟨k, qs2, hk, rfl, hkids2, hbw2⟩ := hrel
    clear H1 Hb1
    have Hkids2 := Lib.hid hkids2; clear hkids2
    have hl2 := pm_len (stF bl) ds k
    by_cases hlt : k < ds.length
    · obtain ⟨g, cg, hv⟩ := Hkids2.out.len (by rw [hl2]; omega)
      rw [hl2] at hv
      simp at hv
      obtain ⟨rfl, rfl⟩ := hv
      obtain ⟨hg1, hg2⟩ := Hkids2.out.own.lt g rfl
      have hkl : k < (pm (stF bl) ds k).length := by rw [hl2]; exact hlt
      have Hl2 := Lib.hid hl2; clear hl2
      obtain ⟨sb, so, rfl, z0⟩ := (Hsr.out.ext hbw2) k (.bool (bl k)) (by rw [List.getElem?_map, List.getElem?_map, List.getElem?_range hlt]; rfl)
      have Hbw2 := Lib.hid hbw2; clear hbw2
      have hsucc := pm_succ (stF bl) ds hlt
      have hskip := pm_skip (stF bl) ds hlt
      have hal := (pm_at (stF bl) ds hlt).1
      cases hbk : bl k
      · have he : pm (stF bl) ds (k + 1) = pm (stF bl) ds k := hskip (by unfold stF; rw [hbk]; rfl)
        have He := Lib.hid he
        rw [hbk] at z0
        clear hsucc hskip hal hbk he
        go_wp2_with fail
        go_roundw
        case rel => unfold PLoop; exact ⟨k + 1, qs2, by omega, by go_num, by rw [He.out]; exact Hkids2.out, Hbw2.out⟩
        case measure => simp [intOf]; omega
      · obtain ⟨_, _, _, _, d0, d1, d2, d3, _, hfz⟩ := Hkids2.out.cells hkl Hl2.out
        have hkn := Kids4.store (x := (.int .i64 0, .int .i64 0, .slice none 0 0)) Hkids2.out hkl Hl2.out (t := .mk 0 0 []) (TV.leaf _ _ 0 0)
        rw [hal, show (⟨alOf ds k, .mk 0 0 []⟩ : D) = stF bl k ⟨alOf ds k, ofOf ds k⟩ by unfold stF; rw [hbk]; rfl, ← hsucc] at hkn
        have Hkn := Lib.hid hkn
        have hb4 : Below w.heap.size w (((wr.setCell ⟨g, k * 4 + 1, none⟩ (.int .i64 0)).setCell ⟨g, k * 4 + 2, none⟩ (.int .i64 0)).setCell ⟨g, k * 4 + 3, none⟩ (.slice none 0 0)) :=
          ((Hbw2.out.setCell hg1 _).setCell hg1 _).setCell hg1 _
        have Hb4 := Lib.hid hb4
        rw [hbk] at z0
        clear hsucc hskip hal hbk hkn hb4 d0
        go_wp2_with fail
        go_roundw
        case rel =>
          unfold PLoop
          obtain ⟨qs3, hk3⟩ := Hkn.out
          exact ⟨k + 1, qs3, by omega, by go_num, hk3, Hb4.out⟩
        case measure => simp [intOf]; omega
    · have hke : k = ds.length := by omega
      subst hke
      go_wp2_with fail
      go_ret
      exact ⟨_, rfl, by unfold stD; rw [← pm_all]; exact Hkids2.out.dv, hbw2⟩

end Go.Proofs.Ytnaedpfaeioolaa
