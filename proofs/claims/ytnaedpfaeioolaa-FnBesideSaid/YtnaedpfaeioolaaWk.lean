/- The contract of validType0 at names, and whole. -/
import Derived.Test.YtnaedpfaeioolaaWj
namespace Go.Proofs.Ytnaedpfaeioolaa
open Go.RowKit
set_option linter.unusedVariables false

section
variable {ds : List D} {NB OB : Nat → Nat} {C base : Nat} {k0 k1 k2 : Value} {w : World} {M : Nat → Bool} {cyc : List (List Int)} {path : List Nat} {nestv pathv : Value}

theorem valid0_in (h : Pre ds NB OB C base k0 k1 k2 M cyc path nestv pathv w) (hN : ds.length ≤ 100) (hbC : base ≤ C) (hbNB : ∀ n, n < ds.length → base ≤ NB n) {k m : Nat} {v : Value} (hch : Ch w k v (.iface 100 (.pointer (some ⟨NB m, 0, none⟩)))) (hm : m < ds.length) (ha : alOf ds m = false) (hin : m ∈ path) :
    VC C w v nestv pathv (QV ds NB OB C base k0 k1 k2 w M cyc path nestv pathv (some (path.drop (path.idxOf m)))) := by
  obtain ⟨ix, hixq, hix, hixe, hbef, hidx⟩ : ∃ ix, path.idxOf m = ix ∧ ∃ hix : ix < path.length, path[ix] = m ∧ (∀ j, (hj : j < ix) → path[j]'(by omega) ≠ m) ∧ path.drop ix = m :: path.drop (ix + 1) := by
    have hix := List.idxOf_lt_length_of_mem hin
    refine ⟨_, rfl, hix, List.getElem_idxOf hix, fun j hj e => ?_, drop_idx hin⟩
    have := List.not_of_lt_findIdx (p := fun x => x == m) (xs := path) (i := j) (by simpa [List.idxOf] using hj)
    simp [e] at this
  rw [hixq]
  have hpl := pathLen h
  obtain ⟨x, hb, _, _⟩ := h.inv.env.nam m hm ha
  obtain ⟨g1, nc, hnv, hn1, hn2⟩ := own_some h.inv.nest (by omega)
  obtain ⟨g, pc, hpv, hp1, hp2⟩ := own_some h.inv.path (by omega)
  have henv1 := h.inv.env.mark1 hm ha
  have ht1 := marked_tf m hb (.iface 106 (.pointer (some ⟨w.heap.size, 0, none⟩)))
  have hbel1 : Below base w ((w.alloc (.cells #[.bool true] 109)).setCell ⟨NB m, 1, none⟩ (.iface 106 (.pointer (some ⟨w.heap.size, 0, none⟩)))) := ((Below.refl _ _).alloc h.bas _).setCell (hbNB m hm) _
  have ho1 := ht1.own h.inv.nest (by decide)
  have ho2 := ht1.own h.inv.path (by decide)
  have hc1 := h.inv.chk.tf ht1 (by decide) (by decide) (by decide)
  have hs1 := ht1.size
  have hr1 := own_row (hpv ▸ h.inv.path)
  have hr2 := own_row (hpv ▸ ho2)
  have hrn := own_row (hnv ▸ h.inv.nest)
  have hjl : (path.drop ix).length = path.length - ix := by simp
  have hr3 : Row ((w.alloc (.cells #[.bool true] 109)).setCell ⟨NB m, 1, none⟩ (.iface 106 (.pointer (some ⟨w.heap.size, 0, none⟩)))) (some ⟨g, 0 + ix, none⟩) ((path.drop ix).map fun j => pv (NB j)) := by
    rw [List.map_drop]
    exact hr2.drop
  have hpw : ∀ n ∈ path.drop ix, n < ds.length ∧ alOf ds n = false := fun n hn => h.pth n (List.mem_of_mem_drop hn)
  obtain ⟨W1, hW1⟩ : ∃ W1, W1 = (w.alloc (.cells #[.bool true] 109)).setCell ⟨NB m, 1, none⟩ (.iface 106 (.pointer (some ⟨w.heap.size, 0, none⟩))) := ⟨_, rfl⟩
  rw [← hW1] at henv1 ht1 hbel1 ho1 ho2 hc1 hs1 hr2 hr3
  have h48 := makeObj_any W1 (path.drop ix) NB OB g (0 + ix) (pc - ix) (by omega) (by omega) (by simp [maxLen] at hp2; omega) hr3 fun j hj => by
    obtain ⟨v, hv, _⟩ := henv1.nam j (hpw j hj).1 (hpw j hj).2
    exact ⟨v, hv⟩
  rw [hjl] at h48
  rw [hnv, hpv]
  refine v0_found C w k v x (pv (OB m)) (NB m) path.length nc path.length pc g 0 _ ix hch hb hn1 (by simp [maxLen] at hn2; omega) hp1 (by simp [maxLen] at hp2; omega) (by omega) (by omega) _ ?_ ?_ ?_ ?_ ?_
  · intro j hj
    have := ptr_at h.inv.env hrn h.pth hm ha (j := j) (by omega)
    rwa [decide_eq_false (hbef j hj)] at this
  · have := ptr_at h.inv.env hrn h.pth hm ha (j := ix) hix
    rwa [decide_eq_true hixe] at this
  · intro j hj
    have := ptr_at henv1 hr2 h.pth hm ha (j := j) (by omega)
    rw [decide_eq_false (hbef j hj)] at this
    rw [← hW1]; exact this
  · have := ptr_at henv1 hr2 h.pth hm ha (j := ix) hix
    rw [decide_eq_true hixe] at this
    rw [← hW1]; exact this
  · rw [← hW1]
    refine h48.mono ?_
    rintro e w2 ⟨rfl, hrow, hb2⟩
    refine ⟨_, rfl, ?_⟩
    have t2 : TF [] [] W1 w2 := TF.below hb2
    have hc2 := hc1.tf t2 (by decide) (by decide) (by decide)
    have h47 := cycleError_any w2 C base W1.heap.size 0 (path.length - ix) (path.drop ix) OB 0 k0 k1 k2 cyc hc2 (by omega) (by omega) (by have := h.cy; omega) (by have := h.bas; have := hb2.size; omega) hbC hrow fun j hj => by
      obtain ⟨t, ht⟩ := henv1.obj j (hpw j hj).1
      exact ⟨t, t2.at ht (by simp)⟩
    rw [hjl] at h47
    refine h47.mono ?_
    rintro e w3 ⟨rfl, hc3, t3, hb3⟩
    refine ⟨rfl, rfl, ?_⟩
    have t12 : TF [101] [] w w2 := ht1.trans (t2.mono (by simp) (by simp))
    refine ⟨?_, ?_, ?_, ?_, ?_, ?_, ?_⟩
    · have e1 := (henv1.tf t2 (by simp)).tf t3 (by decide)
      rw [hidx]
      exact e1
    · rw [rot_zero] at hc3
      exact hc3
    · exact (t12.mono (by decide) (by simp)).trans (t3.mono (by decide) (by simp))
    · exact (hbel1.trans (hb2.mono (by have := h.bas; omega))).trans hb3
    · rw [← hnv]; exact t3.own (t12.own h.inv.nest (by decide)) (by decide)
    · rw [← hpv]; exact t3.own (t12.own h.inv.path (by decide)) (by decide)
    · intro b c fr hb' _ _
      have e1 := t12.cells b c 100 fr hb' (by decide)
      rw [t3.cells b c 100 fr (e1.trans hb') (by decide), e1]

theorem valid0_out (h : Pre ds NB OB C base k0 k1 k2 M cyc path nestv pathv w) (hN : ds.length ≤ 100) {k m g : Nat} {v : Value} (hg : ds.length ≤ path.length + g) (hch : Ch w k v (.iface 100 (.pointer (some ⟨NB m, 0, none⟩)))) (hm : m < ds.length) (ha : alOf ds m = false) (hin : m ∉ path)
    (ih : ∀ g', g = g' + 1 → V0 ds NB OB C base k0 k1 k2 g' ds.length (ofOf ds m)) :
    VC C w v nestv pathv (QV ds NB OB C base k0 k1 k2 w M cyc path nestv pathv (find (GG ds) M g path [m])) := by
  have hpl := pathLen h
  obtain ⟨x, hb, hx1, hx2⟩ := h.inv.env.nam m hm ha
  obtain ⟨na, nc, hnv, hn1, hn2, hrn⟩ := own_slice h.inv.nest
  obtain ⟨pa, pc, hpv, hp1, hp2, _⟩ := own_slice h.inv.path
  have hne : ∀ j, j < path.length → PtrAt na (NB m) w j false := by
    intro j hj
    have := ptr_at h.inv.env hrn h.pth hm ha hj
    rwa [decide_eq_false (fun e => hin (by rw [← e]; exact List.getElem_mem hj))] at this
  have hn' := h.inv.nest
  have hp' := h.inv.path
  have hd' := h.dis
  rw [hnv] at hn' hd'
  rw [hpv] at hp' hd'
  have key := v0_new C base w k v x (pv (OB m)) (NB m) path.length nc path.length pc na pa _ _ hch hb hn1 (by simp [maxLen] at hn2; omega) hp1 (by simp [maxLen] at hp2; omega) (by omega) (by omega)
    (QV ds NB OB C base k0 k1 k2 w M cyc path nestv pathv (find (GG ds) M g path [m])) h.bas hne hn' hp' hd' ?_
  · rw [hnv, hpv]
    rw [hnv, hpv] at key
    exact key
  · intro w1 w2 nest' path' g1 g2 g3 g4 p1 g5 g6 g7 g8
    rw [← hnv] at g2 g3 g4
    rw [← hpv] at p1 g6 g7 g8
    obtain ⟨hpre, hback⟩ := h.push hin hm ha g1 g2 g3 g4 p1 g5 g6 g7 g8
    have ht2 : TF frm [] w w2 := (hback w2 _ _ hpre.inv).tf
    cases hM : M m
    · have hlen : path.length + 1 ≤ ds.length := by
        have := pathLen hpre
        simpa using this
      obtain ⟨g', rfl⟩ : ∃ g', g = g' + 1 := ⟨g - 1, by omega⟩
      have hrec := ih g' rfl M cyc (path ++ [m]) w2 x nest' path' hpre (by simp; omega) ((hx1 hM).tf ht2 (by decide))
      refine hrec.mono fun r w' hq => ?_
      obtain ⟨hr, hi⟩ := hq
      have hR : find (GG ds) M (g' + 1) path [m] = find (GG ds) M g' (path ++ [m]) (flatF ds ds.length (ofOf ds m)) := by
        rw [find_go _ hin hM, find_nil, Option.or_none]; rfl
      rw [hR]
      exact ⟨hr, hback w' _ _ hi⟩
    · obtain ⟨b, rfl, hb2⟩ := hx2 hM
      have hR : find (GG ds) M g path [m] = none := by rw [find_marked _ hin hM, find_nil]
      rw [hR]
      refine (valid0_leaf hpre (.nil _ (ta_106_97 _)) (Or.inl ⟨_, rfl⟩) (R := none) rfl).mono fun r w' hq => ?_
      obtain ⟨hr, hi⟩ := hq
      exact ⟨hr, hback w' _ _ hi⟩

/-- validType0 answers as the plain search does. -/
theorem valid0 (hds : DOk ds) (hN : ds.length ≤ 100) (hbC : base ≤ C) (hbNB : ∀ n, n < ds.length → base ≤ NB n) : ∀ (g f m : Nat) (t : T), Ok ds.length t → AT ds m t → ds.length ≤ m + f → V0 ds NB OB C base k0 k1 k2 g f t := by
  intro g
  induction g using Nat.strongRecOn with
  | _ g ihg =>
    intro f
    induction f using Nat.strongRecOn with
    | _ f ihf =>
      intro m t
      induction t using T.ind with
      | _ k n es iht =>
        intro hok hat hm M cyc path w v nestv pathv hpre hg hv
        obtain ⟨j, v', t', f', m', hch, hv', hok', hat', hm', hno, hfl, hle, heq⟩ := unalias_ex ds hds NB w hpre.inv.env.ali f m _ v hv hok hat hm
        rw [hfl]
        have hkids : ∀ k' n' es', t' = .mk k' n' es' → ∀ e ∈ es', V0 ds NB OB C base k0 k1 k2 g f' e := by
          intro k' n' es' ht e he
          by_cases hff : f' = f
          · have := heq hff
            rw [this] at ht
            injection ht with _ _ h3
            subst h3
            obtain ⟨_, _, _, _, _, _, _, _, hoke⟩ := hok
            obtain ⟨_, _, _, _, hae⟩ := hat
            rw [hff]
            exact iht e he (hoke e he) (hae e he) hm
          · subst ht
            obtain ⟨_, _, _, _, _, _, _, _, hoke⟩ := hok'
            obtain ⟨_, _, _, _, hae⟩ := hat'
            exact ihf f' (by omega) m' e (hoke e he) (hae e he) hm'
        obtain ⟨k', n', es'⟩ := t'
        obtain ⟨_, _, _, h0, h6, h3, hn1, ha3, _⟩ := id hok'
        rcases (show k' = 0 ∨ k' = 1 ∨ k' = 2 ∨ k' = 3 ∨ 4 ≤ k' by omega) with rfl | rfl | rfl | rfl | hk
        · obtain ⟨b, rfl, _⟩ := hv'.inv0
          exact valid0_leaf hpre hch (Or.inl ⟨_, rfl⟩) (by rw [flatF_none _ _ _ _ _ (Or.inl rfl), find_nil])
        · have hal := hno rfl
          obtain rfl := hv'.inv1
          unfold nv at hch
          rw [if_neg (by rw [hal]; decide)] at hch
          have hml : n'.toNat < ds.length := by have := hn1 rfl; omega
          rw [flatF_name _ _ _ _ hal]
          by_cases hin : n'.toNat ∈ path
          · rw [find_in _ hin]
            exact valid0_in hpre hN hbC hbNB hch hml hal hin
          · exact valid0_out hpre hN hg hch hml hal hin fun g' e => by
              subst e
              exact ihg g' (by omega) ds.length 0 (ofOf ds n'.toNat) (hds.of hml) (AT.zero ds _) (by omega)
        · obtain ⟨a, rfl⟩ := hv'.inv2
          exact valid0_leaf hpre hch (Or.inr ⟨_, rfl⟩) (by rw [flatF_none _ _ _ _ _ (Or.inr rfl), find_nil])
        · obtain ⟨b, x, t1, rfl, rfl, hb, hx⟩ := hv'.inv3
          have hrec := hkids _ _ _ rfl t1 (by simp) M cyc path w x nestv pathv hpre hg hx
          rw [flatF_row _ _ _ _ _ (by omega)]
          simp only [List.flatMap_cons, List.flatMap_nil, List.append_nil]
          exact v0_arr C w j v nestv pathv b x hch hb _ hrec
        · exact valid0_row hpre hg hch ⟨hk, h6⟩ hv' (hkids _ _ _ rfl)
end

end Go.Proofs.Ytnaedpfaeioolaa
