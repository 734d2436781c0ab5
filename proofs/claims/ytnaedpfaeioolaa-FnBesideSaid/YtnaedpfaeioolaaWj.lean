/- The contract of validType0: it answers as the plain search does. -/
import Derived.Test.YtnaedpfaeioolaaWi
namespace Go.Proofs.Ytnaedpfaeioolaa
open Go.RowKit
set_option linter.unusedVariables false

theorem flatF_none (ds : List D) (f : Nat) (k n : Int) (es : List T) (h : k = 0 ∨ k = 2) : flatF ds f (.mk k n es) = [] := by
  rw [flatF.eq_def]
  rcases h with rfl | rfl <;> simp
theorem flatF_name (ds : List D) (f : Nat) (n : Int) (es : List T) (h : alOf ds n.toNat = false) : flatF ds f (.mk 1 n es) = [n.toNat] := by
  rw [flatF.eq_def]; simp [h]
theorem flatF_row (ds : List D) (f : Nat) (k n : Int) (es : List T) (h : 3 ≤ k ∧ k ≤ 6) : flatF ds f (.mk k n es) = es.flatMap (flatF ds f) := by
  rw [flatF.eq_def]
  simp only []
  rw [if_neg (by omega), if_pos h]

/-- The names that a declaration contains. -/
def GG (ds : List D) (n : Nat) : List Nat := flatF ds ds.length (ofOf ds n)

section
variable (ds : List D) (NB OB : Nat → Nat) (C base : Nat) (k0 k1 k2 : Value)

def QV (w : World) (M : Nat → Bool) (cyc : List (List Int)) (path : List Nat) (nestv pathv : Value) (R : Option (List Nat)) (r : Bool) (w' : World) : Prop :=
  r = R.isNone ∧ Inv ds NB OB C base k0 k1 k2 w (mark M R) (addc cyc R) path nestv pathv w'

/-- validType0 answers as the plain search does. -/
def V0 (g f : Nat) (t : T) : Prop := ∀ (M : Nat → Bool) (cyc : List (List Int)) (path : List Nat) (w : World) (v nestv pathv : Value), Pre ds NB OB C base k0 k1 k2 M cyc path nestv pathv w → ds.length ≤ path.length + g →
  TyV (alOf ds) NB w Any 0 v t → VC C w v nestv pathv (QV ds NB OB C base k0 k1 k2 w M cyc path nestv pathv (find (GG ds) M g path (flatF ds f t)))
end

theorem VC.mono {C : Nat} {w : World} {v nestv pathv : Value} {Q Q' : Bool → World → Prop} (h : VC C w v nestv pathv Q) (hq : ∀ r w', Q r w' → Q' r w') : VC C w v nestv pathv Q' :=
  Calls.mono h fun e w' ⟨r, he, hr⟩ => ⟨r, he, hq r w' hr⟩

theorem own_some {w : World} {base : Nat} {e : TypeId} {size n : Nat} {v : Value} {xs : List Value} (h : w.ownsRow base e size v n xs) (hn : 0 < n) : ∃ g cap, v = .slice (some ⟨g, 0, none⟩) n cap ∧ n ≤ cap ∧ cap ≤ maxLen := by
  rcases h.2 with ⟨_, h0⟩ | ⟨g, cap, cur, rfl, _, _, h1, h2, _⟩
  · omega
  · exact ⟨g, cap, rfl, h1, h2⟩

theorem Try.info101 : (Try.prog.info? 101).map (fun i => (i.zero, i.size, i.bytes)) = some (some (.agg #[.pointer none, .nilIface]), 2, 24) := by kernel_rfl

theorem Row.drop {w : World} {g o i : Nat} {ys : List Value} (h : Row w (some ⟨g, o, none⟩) ys) : Row w (some ⟨g, o + i, none⟩) (ys.drop i) := by
  intro j u hj
  rw [List.getElem?_drop] at hj
  obtain ⟨b, o', e, hc⟩ := h _ _ hj
  simp at e
  obtain ⟨rfl, rfl⟩ := e
  exact ⟨g, o + i, rfl, by rw [Nat.add_assoc]; exact hc⟩

theorem rot_zero (js : List Nat) : rot js 0 = js.map Int.ofNat := by
  unfold rot
  apply List.ext_getElem (by simp)
  intro i h1 h2
  have hi : i < js.length := by simpa using h2
  simp [rotAt, Nat.mod_eq_of_lt hi, hi, List.getD_eq_getElem?_getD]

section
variable {ds : List D} {NB OB : Nat → Nat} {C base : Nat} {k0 k1 k2 : Value} {w : World} {M : Nat → Bool} {cyc : List (List Int)} {path : List Nat} {nestv pathv : Value}

theorem ptr_at (henv : Env ds NB OB M w) {a : Option Addr} (hr : Row w a (path.map fun j => pv (NB j))) (hp : ∀ n ∈ path, n < ds.length ∧ alOf ds n = false) {m : Nat} (hm : m < ds.length) (ha : alOf ds m = false) {j : Nat} (hj : j < path.length) :
    PtrAt a (NB m) w j (decide (path[j] = m)) := by
  obtain ⟨b, o, hab, hc⟩ := hr j (pv (NB path[j])) (by rw [List.getElem?_map, List.getElem?_eq_getElem hj]; rfl)
  obtain ⟨i, hi, _, hsz, _⟩ := info_parts Try.info101
  refine ⟨b, o, ⟨NB path[j], 0, none⟩, hab, hc, ?_⟩
  obtain ⟨h1, h2⟩ := hp _ (List.getElem_mem hj)
  by_cases h : path[j] = m
  · rw [h]
    simp only [decide_true]
    exact run_eql_ptr_same w _ Try.underlying100 hi
  · simp only [h, decide_false]
    obtain ⟨_, b1, _⟩ := henv.nam _ h1 h2
    obtain ⟨_, b2, _⟩ := henv.nam _ hm ha
    refine run_eql_ptr_other w Try.underlying100 hi (by omega) ?_ b1 b2
    intro e
    simp at e
    exact h (henv.inj _ _ h1 hm e)

theorem none_some {R : Option (List Nat)} (h : R = none) : mark M R = M ∧ addc cyc R = cyc := by subst h; exact ⟨rfl, rfl⟩

theorem Pre.qnone (h : Inv ds NB OB C base k0 k1 k2 w M cyc path nestv pathv w) {w' : World} (k : Inv ds NB OB C base k0 k1 k2 w M cyc path nestv pathv w') {R : Option (List Nat)} (hR : R = none) : QV ds NB OB C base k0 k1 k2 w M cyc path nestv pathv R true w' := by
  subst hR
  exact ⟨rfl, k⟩

theorem pathLen (h : Pre ds NB OB C base k0 k1 k2 M cyc path nestv pathv w) : path.length ≤ ds.length := nodup_le ds.length path h.nodup fun x hx => (h.pth x hx).1

/-- Types that contain nothing. -/
theorem valid0_leaf (h : Pre ds NB OB C base k0 k1 k2 M cyc path nestv pathv w) {k : Nat} {v v' : Value} (hch : Ch w k v v') (hty : (∃ p, v' = .iface 106 (.pointer (some p))) ∨ (∃ p, v' = .iface 114 (.pointer p))) {R : Option (List Nat)} (hR : R = none) :
    VC C w v nestv pathv (QV ds NB OB C base k0 k1 k2 w M cyc path nestv pathv R) := by
  rcases hty with ⟨p, rfl⟩ | ⟨p, rfl⟩
  · exact v0_leaf C w k v _ nestv pathv hch (ta_106_117 p) (ta_106_120 p) (ta_106_130 p) (ta_106_127 p) (ta_106_100 p) _ (Pre.qnone h.inv h.inv hR)
  · exact v0_leaf C w k v _ nestv pathv hch (ta_114_117 p) (ta_114_120 p) (ta_114_130 p) (ta_114_127 p) (ta_114_100 p) _ (Pre.qnone h.inv h.inv hR)

/-- Structs, interfaces and unions. -/
theorem valid0_row (h : Pre ds NB OB C base k0 k1 k2 M cyc path nestv pathv w) {g f j : Nat} {v v' : Value} {k n : Int} {es : List T} (hg : ds.length ≤ path.length + g) (hch : Ch w j v v') (hk : 4 ≤ k ∧ k ≤ 6)
    (hv : TyV (alOf ds) NB w Any 0 v' (.mk k n es)) (ih : ∀ e ∈ es, V0 ds NB OB C base k0 k1 k2 g f e) :
    VC C w v nestv pathv (QV ds NB OB C base k0 k1 k2 w M cyc path nestv pathv (find (GG ds) M g path (flatF ds f (.mk k n es)))) := by
  rw [flatF_row ds f k n es (by omega)]
  obtain ⟨ity, bty, rty, ety, b, sv, xs, hrt, rfl, hb, hown, _⟩ := hv.invR hk.1
  obtain ⟨a, cap, rfl, hc1, hc2, _⟩ := own_slice hown
  have hc3 : cap ≤ 9223372036854775807 := by simpa [maxLen] using hc2
  let R : Nat → World → Prop := fun i W => find (GG ds) M g path ((es.take i).flatMap (flatF ds f)) = none ∧ Inv ds NB OB C base k0 k1 k2 w M cyc path nestv pathv W
  have hR0 : R 0 w := ⟨by simp [find_nil], h.inv⟩
  have hend : ∀ W, R es.length W → QV ds NB OB C base k0 k1 k2 w M cyc path nestv pathv (find (GG ds) M g path (es.flatMap (flatF ds f))) true W := by
    intro W hW
    have h1 := hW.1
    rw [List.take_of_length_le (Nat.le_refl _)] at h1
    exact Pre.qnone h.inv hW.2 h1
  have hstep : ∀ i W, i < es.length → R i W → ∃ g' o u x, a = some ⟨g', o, none⟩ ∧ W.cell? ⟨g', o + i, none⟩ = some u ∧ ElemAt (decide (ety ≠ 0)) W u x ∧
      VC C W x nestv pathv (NextR R (QV ds NB OB C base k0 k1 k2 w M cyc path nestv pathv (find (GG ds) M g path (es.flatMap (flatF ds f)))) i) := by
    intro i W hi hRi
    obtain ⟨hf, hinv⟩ := hRi
    have hvW := hv.tf hinv.tf (by decide)
    obtain ⟨ity', bty', rty', ety', b', sv', xs', hrt', e1, hb', hown', hel⟩ := hvW.invR hk.1
    simp at e1
    obtain ⟨rfl, rfl⟩ := e1
    have hsame : bty' = bty ∧ rty' = rty ∧ ety' = ety ∧ bty ∉ frm := by
      simp [rowTab] at hrt hrt'
      rcases hrt with ⟨_, rfl, rfl, rfl, rfl⟩ | ⟨_, rfl, rfl, rfl, rfl⟩ | ⟨_, rfl, rfl, rfl, rfl⟩ <;> rcases hrt' with ⟨_, h1, rfl, rfl, rfl⟩ | ⟨_, h1, rfl, rfl, rfl⟩ | ⟨_, h1, rfl, rfl, rfl⟩ <;> first | (simp at h1; done) | exact ⟨rfl, rfl, rfl, by decide⟩
    obtain ⟨rfl, rfl, rfl, hnf⟩ := hsame
    have hbW := hinv.tf.at hb hnf
    rw [hbW] at hb'
    simp at hb'
    subst hb'
    have hxl : xs'.length = es.length := by simpa using hown'.1
    have hxi : xs'[i]? = some xs'[i] := List.getElem?_eq_getElem (by omega)
    obtain ⟨g', o, rfl, hc⟩ := own_row hown' i _ hxi
    have hte := hel i _ _ hxi (List.getElem?_eq_getElem hi)
    have hx : ∃ x, ElemAt (decide (ety' ≠ 0)) W xs'[i] x ∧ TyV (alOf ds) NB W Any 0 x es[i] := by
      by_cases h0 : ety' = 0
      · subst h0
        exact ⟨xs'[i], by simp [ElemAt], hte⟩
      · have he : ety' = 126 ∨ ety' = 135 := by
          simp [rowTab] at hrt
          rcases hrt with ⟨_, _, _, _, rfl⟩ | ⟨_, _, _, _, rfl⟩ | ⟨_, _, _, _, rfl⟩
          · exact Or.inl rfl
          · exact absurd rfl h0
          · exact Or.inr rfl
        obtain ⟨bi, x, e1, h1, h2⟩ := hte.invE he
        refine ⟨x, ?_, h2⟩
        simp only [ElemAt, ne_eq, h0, not_false_eq_true, decide_true, if_true]
        exact ⟨bi, e1, cell_of_one h1⟩
    obtain ⟨x, hx1, hx2⟩ := hx
    refine ⟨g', o, _, x, rfl, hc, hx1, ?_⟩
    have hrec := ih es[i] (List.getElem_mem hi) M cyc path W x nestv pathv (h.later hinv) hg hx2
    refine hrec.mono fun r w' hq => ?_
    have hsplit : es = es.take i ++ es[i] :: es.drop (i + 1) := by rw [← List.drop_eq_getElem_cons hi, List.take_append_drop]
    obtain ⟨hr, hi2⟩ := hq
    cases hRe : find (GG ds) M g path (flatF ds f es[i]) with
    | none =>
      rw [hRe] at hr hi2
      subst hr
      show NextR R _ i true w'
      unfold NextR
      rw [if_pos rfl]
      refine ⟨?_, hinv.trans hi2⟩
      rw [List.take_succ_eq_append_getElem hi, List.flatMap_append, find_append, hf]
      simp [hRe]
    | some c =>
      rw [hRe] at hr hi2
      subst hr
      show NextR R _ i false w'
      unfold NextR
      rw [if_neg (by simp)]
      have htot : find (GG ds) M g path (es.flatMap (flatF ds f)) = some c := by
        rw [hsplit, List.flatMap_append, find_append, hf, List.flatMap_cons, find_append, hRe]
        rfl
      rw [htot]
      exact ⟨rfl, hinv.trans hi2⟩
  simp [rowTab] at hrt
  rcases hrt with ⟨_, rfl, rfl, rfl, rfl⟩ | ⟨_, rfl, rfl, rfl, rfl⟩ | ⟨_, rfl, rfl, rfl, rfl⟩
  · exact v0_struct C w j v nestv pathv b es.length cap a hch hb hc1 hc3 _ R hR0 hstep hend
  · exact v0_iface C w j v nestv pathv b es.length cap a hch hb hc1 hc3 _ R hR0 hstep hend
  · exact v0_union C w j v nestv pathv b es.length cap a hch hb hc1 hc3 _ R hR0 hstep hend

end

end Go.Proofs.Ytnaedpfaeioolaa
