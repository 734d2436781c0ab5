/- The contracts of Unalias and makeObjList. -/
import Derived.Test.YtnaedpfaeioolaaVh
namespace Go.Proofs.Ytnaedpfaeioolaa
open Go.RowKit
set_option linter.unusedVariables false

theorem not_alias_ta {ds : List D} {NB : Nat → Nat} {w : World} {S : Nat → Prop} {v : Value} {t : T} (h : TyV (alOf ds) NB w S 0 v t) (hok : Ok ds.length t) (hn : NoAl ds t) :
    ∀ w', (Instr.typeAssert v 80 97 true).run Try.prog w' = .ok (.tuple #[.pointer none, .bool false]) w' := by
  intro w'
  obtain ⟨k, n, es, h0, h6, h3, hn1, ha, he⟩ := hok
  rcases (show k = 0 ∨ k = 1 ∨ k = 2 ∨ k = 3 ∨ 4 ≤ k by omega) with rfl | rfl | rfl | rfl | hk
  · obtain ⟨b, rfl, _⟩ := h.inv0
    exact ta_106_97 _ _
  · rw [h.inv1]
    unfold nv
    rw [if_neg (by rw [hn rfl]; decide)]
    exact ta_100_97 _ _
  · obtain ⟨a, rfl⟩ := h.inv2
    exact ta_114_97 _ _
  · obtain ⟨b, x, t, _, rfl, _⟩ := h.inv3
    exact ta_117_97 _ _
  · obtain ⟨ity, bty, rty, ety, b, sv, xs, hr, rfl, _⟩ := h.invR hk
    simp [rowTab] at hr
    rcases hr with ⟨_, rfl, _⟩ | ⟨_, rfl, _⟩ | ⟨_, rfl, _⟩
    · exact ta_120_97 _ _
    · exact ta_127_97 _ _
    · exact ta_130_97 _ _

/-- What Unalias goes through, from a value to the one that is no alias. -/
inductive Ch (w : World) : Nat → Value → Value → Prop
  | nil (v : Value) (h : ∀ W, (Instr.typeAssert v 80 97 true).run Try.prog W = .ok (.tuple #[.pointer none, .bool false]) W) : Ch w 0 v v
  | cons (k Z : Nat) (p v2 v' : Value) (hb : w.heap[Z]? = some (.cells #[p, v2] 99 (0, 0))) (h : Ch w k v2 v') : Ch w (k + 1) (.iface 97 (.pointer (some ⟨Z, 0, none⟩))) v'

set_option maxHeartbeats 1000000 in
set_option maxRecDepth 100000 in
theorem unalias_ch (w : World) (k : Nat) (v v' : Value) (h : Ch w k v v') : Calls Try.prog 45 #[v] w fun e w' => e = .returned v' ∧ w = w' := by
  go_enter Try.func45, Try.ntmps45
  go_wp2_with fail
  go_loopg [0] k (fun f' v wr => wr = w ∧ Ch w f' v v')
  case atStart => exact ⟨rfl, h⟩
  case round =>
    obtain ⟨rfl, hr⟩ := hrel
    cases hr with
    | nil v h =>
      go_wp2_with fail
      go_ret
      exact ⟨rfl, rfl⟩
    | cons k Z p v2 v' hb h =>
      have hc := cell_of hb 1
      simp only [show (#[p, v2] : Array Value)[1]? = some v2 from rfl] at hc
      have tq := ta_97_97
      have H := Lib.hid h; clear h hb
      go_wp2_with fail
      go_roundg k
      case rel => exact ⟨rfl, H.out⟩
      case measure => omega

theorem unalias_ex (ds : List D) (hds : DOk ds) (NB : Nat → Nat) (w : World) (hal : AliasOk ds NB w) : ∀ (f m : Nat) (t : T) (v : Value), TyV (alOf ds) NB w Any 0 v t → Ok ds.length t → AT ds m t → ds.length ≤ m + f →
    ∃ (k : Nat) (v' : Value) (t' : T) (f' m' : Nat), Ch w k v v' ∧ TyV (alOf ds) NB w Any 0 v' t' ∧ Ok ds.length t' ∧ AT ds m' t' ∧ ds.length ≤ m' + f' ∧ NoAl ds t' ∧ flatF ds f t = flatF ds f' t' ∧ f' ≤ f ∧ (f' = f → t' = t) := by
  intro f
  induction f with
  | zero =>
    intro m t v ht hok hat hm
    obtain ⟨k, n, es⟩ := t
    have hno : NoAl ds (.mk k n es) := by
      intro h1
      cases h : alOf ds n.toNat
      · rfl
      · obtain ⟨_, _, _, _, _, _, hn1, _, _⟩ := hok
        obtain ⟨_, _, _, ha1, _⟩ := hat
        have := ha1 h1 h
        have := hn1 h1
        omega
    exact ⟨0, v, _, 0, m, .nil v (not_alias_ta ht hok hno), ht, hok, hat, hm, hno, rfl, Nat.le_refl _, fun _ => rfl⟩
  | succ f ih =>
    intro m t v ht hok hat hm
    obtain ⟨k, n, es⟩ := t
    by_cases hal' : k = 1 ∧ alOf ds n.toNat = true
    · obtain ⟨rfl, hal'⟩ := hal'
      obtain rfl := ht.inv1
      obtain ⟨_, _, _, _, _, _, hn1, _, _⟩ := hok
      obtain ⟨hn0, hnN⟩ := hn1 rfl
      have hnl : n.toNat < ds.length := by omega
      obtain ⟨_, _, _, ha1, _⟩ := hat
      have hmn := ha1 rfl hal'
      obtain ⟨p, v2, hb, hv2⟩ := hal.at_ _ hnl hal'
      obtain ⟨k, v', t', f', m', h1, h2, h3, h4, h5, h6, h7, h8, h9⟩ := ih (n.toNat + 1) (ofOf ds n.toNat) v2 hv2 (hds.of hnl) (hds.at_ hnl hal') (by omega)
      refine ⟨k + 1, v', t', f', m', ?_, h2, h3, h4, h5, h6, by rw [flatF_alias ds f n _ hal', h7], by omega, fun h => by omega⟩
      unfold nv
      rw [if_pos hal']
      exact .cons k _ p v2 v' hb h1
    · have hno : NoAl ds (.mk k n es) := by
        intro h1
        cases h : alOf ds n.toNat
        · rfl
        · exact absurd ⟨h1, h⟩ hal'
      exact ⟨0, v, _, f + 1, m, .nil v (not_alias_ta ht hok hno), ht, hok, hat, hm, hno, rfl, Nat.le_refl _, fun _ => rfl⟩

theorem makeObj_run (n : Nat) (hn : n ≤ 1000) (w : World) : ∃ cs, (Instr.makeSlice 74 (.int .i64 (n : Int)) (.int .i64 (n : Int))).run Try.prog w = .ok (.slice (some ⟨w.heap.size, 0, none⟩) n n) (w.alloc (.cells cs 84)) ∧
    ∀ base, base ≤ w.heap.size → (w.alloc (.cells cs 84)).ownsRow base 84 1 (.slice (some ⟨w.heap.size, 0, none⟩) n n) n (List.replicate n .nilIface) := by
  obtain ⟨i, hi, hz, hsize, hby⟩ := info_parts Try.info84
  have h := run_make (P := Try.prog) w 74 84 i .nilIface Try.underlying74 hi hz .i64 .i64 n n (by omega) (by omega) (by rw [hby]; omega) (by omega)
  rw [hsize, Int.toNat_natCast, Nat.mul_one] at h
  refine ⟨_, h, fun base hb => ?_⟩
  have h2 := World.ownsRow_lit (base := base) (size := 1) (e := 84) w (madeCells (Value.nilIface).cells n) n hb (by unfold maxLen; omega) (by simp [madeCells])
  rw [show (Value.nilIface).cells = #[Value.nilIface] from rfl, toList_madeCells_one] at h2
  exact h2

theorem objs_set (NB OB : Nat → Nat) (js : List Nat) (k : Nat) (hk : k < js.length) :
    ((js.take k).map (objV OB) ++ List.replicate (js.length - k) Value.nilIface).set k (objV OB js[k]) = (js.take (k + 1)).map (objV OB) ++ List.replicate (js.length - (k + 1)) Value.nilIface := by
  rw [List.set_append_right _ _ (by simp; omega)]
  have h1 : k - ((js.take k).map (objV OB)).length = 0 := by simp; omega
  rw [h1, show js.length - k = (js.length - (k + 1)) + 1 from by omega, List.replicate_succ, List.set_cons_zero, List.take_succ_eq_append_getElem hk, List.map_append, List.append_assoc]
  rfl

set_option maxHeartbeats 1000000 in
set_option maxRecDepth 100000 in
theorem makeObj_any (w : World) (js : List Nat) (NB OB : Nat → Nat) (b o cap : Nat) (hl : js.length ≤ 1000) (hc1 : js.length ≤ cap) (hc2 : cap ≤ 9223372036854775807) (hr : Row w (some ⟨b, o, none⟩) (js.map fun j => pv (NB j)))
    (hcell : ∀ j ∈ js, ∃ v, w.heap[NB j]? = some (.cells #[pv (OB j), v] 101 (0, 0))) :
    Calls Try.prog 48 #[.slice (some ⟨b, o, none⟩) js.length cap] w fun e w' => e = .returned (.slice (some ⟨w.heap.size, 0, none⟩) js.length js.length) ∧ Row w' (some ⟨w.heap.size, 0, none⟩) (js.map (objV OB)) ∧ Below w.heap.size w w' := by
  obtain ⟨cs, hmk, hown⟩ := makeObj_run js.length hl w
  have Hown := Lib.hid (hown w.heap.size (Nat.le_refl _)); clear hown
  have Hr := Lib.hid hr; clear hr
  have Hcell := Lib.hid hcell; clear hcell
  go_enter Try.func48, Try.ntmps48
  go_wp2_with fail
  go_loopw [11] (fun i wr => ∃ k : Nat, k ≤ js.length ∧ i = .int .i64 k ∧ wr.ownsRow w.heap.size 84 1 (.slice (some ⟨w.heap.size, 0, none⟩) js.length js.length) js.length ((js.take k).map (objV OB) ++ List.replicate (js.length - k) .nilIface) ∧ Below w.heap.size w wr) (fun i _ => js.length - (intOf i).toNat)
  case atStart => exact ⟨0, Nat.zero_le _, rfl, Hown.out, (Below.refl _ _).alloc (Nat.le_refl _) _⟩
  case round =>
    obtain ⟨k, hk, rfl, hown, hbw⟩ := hrel
    have Hown2 := Lib.hid hown; clear hown
    by_cases hlt : k < js.length
    · obtain ⟨_, _, e0, x0⟩ := Hr.out k (pv (NB js[k])) (by rw [List.getElem?_map, List.getElem?_eq_getElem hlt]; rfl)
      simp at e0
      obtain ⟨rfl, rfl⟩ := e0
      obtain ⟨v, hb⟩ := Hcell.out js[k] (List.getElem_mem hlt)
      have hb' := below_ext hbw hb
      have x1 := cell_of hb' 0
      simp only [show ∀ a b : Value, (#[a, b] : Array Value)[0]? = some a from fun _ _ => rfl] at x1
      have x2 := cell_later hbw x0
      clear x0 hb hb'
      have hset := objs_set NB OB js k hlt
      have Hset := Lib.hid hset; clear hset
      have hst := Hown2.out.stored k (objV OB js[k])
      rw [Hset.out] at hst
      have Hst := Lib.hid hst.1; clear hst
      have y0 := Hown2.out.cellAt k (by omega)
      have y1 : wr.frozen? ⟨w.heap.size, k, none⟩ = false := Hown2.out.frozenAt k
      rw [List.getElem?_append_right (by simp; omega)] at y0
      simp only [List.length_map, List.length_take, Nat.min_eq_left (Nat.le_of_lt hlt), Nat.sub_self] at y0
      rw [show js.length - k = (js.length - (k + 1)) + 1 from by omega, List.replicate_succ, List.getElem?_cons_zero] at y0
      unfold pv at x1 x2
      unfold objV at Hst
      clear Hset
      generalize js[k] = q at x1 x2 Hst
      have Hbs := Lib.hid (fun u => hbw.setCell (Nat.le_refl w.heap.size) u (p := ⟨w.heap.size, k, none⟩))
      go_wp2_with fail
      go_roundw
      case rel => exact ⟨k + 1, by omega, by go_num, Hst.out, Hbs.out _⟩
      case measure => simp [intOf]; omega
    · have hke : k = js.length := by omega
      subst hke
      go_wp2_with fail
      go_ret
      refine ⟨rfl, ?_, hbw⟩
      have h1 := own_row Hown2.out
      rw [List.take_of_length_le (Nat.le_refl _), Nat.sub_self, List.replicate_zero, List.append_nil] at h1
      exact h1

end Go.Proofs.Ytnaedpfaeioolaa
