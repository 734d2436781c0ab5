/- Two lists of declarations as one: what they contain. -/
import Derived.Test.YtnaedpfaeioolaaYl
import Derived.Test.YtnaedpfaeioolaaVd
import Derived.Test.YtnaedpfaeioolaaXb
namespace Go.Proofs.Ytnaedpfaeioolaa
open Go.RowKit
set_option linter.unusedVariables false

def mvD (s : Nat) (d : D) : D := ⟨d.alias, movedT s d.of⟩
def bsD (l m : List D) : List D := l ++ m.map (mvD l.length)

theorem bs_len (l m : List D) : (bsD l m).length = l.length + m.length := by simp [bsD]
theorem bs_left (l m : List D) {n : Nat} (hn : n < l.length) : alOf (bsD l m) n = alOf l n ∧ ofOf (bsD l m) n = ofOf l n := by
  unfold alOf ofOf bsD
  rw [List.getD_eq_getElem?_getD, List.getD_eq_getElem?_getD, List.getElem?_append_left hn]
  exact ⟨rfl, rfl⟩
theorem bs_right (l m : List D) {n : Nat} (hn : n < m.length) : alOf (bsD l m) (n + l.length) = alOf m n ∧ ofOf (bsD l m) (n + l.length) = movedT l.length (ofOf m n) := by
  unfold alOf ofOf bsD
  rw [List.getD_eq_getElem?_getD, List.getD_eq_getElem?_getD, List.getElem?_append_right (by omega), Nat.add_sub_cancel, List.getElem?_map, List.getElem?_eq_getElem hn]
  exact ⟨rfl, rfl⟩

theorem flat_left {l : List D} (hl : DOk l) (m : List D) : ∀ (f : Nat) (t : T), Ok l.length t → flatF (bsD l m) f t = flatF l f t := by
  intro f
  induction f with
  | zero =>
    intro t h
    induction h with
    | mk k n es h0 h6 h3 hn ha he ih =>
      rw [flatF.eq_def, flatF.eq_def l]
      simp only []
      by_cases h1 : k = 1
      · have := hn h1
        rw [if_pos h1, if_pos h1, (bs_left l m (n := n.toNat) (by omega)).1]
      · rw [if_neg h1, if_neg h1]
        split
        · exact fmx fun e he => ih e he
        · rfl
  | succ f ihf =>
    intro t h
    induction h with
    | mk k n es h0 h6 h3 hn ha he ih =>
      rw [flatF.eq_def, flatF.eq_def l]
      simp only []
      by_cases h1 : k = 1
      · have := hn h1
        rw [if_pos h1, if_pos h1, (bs_left l m (n := n.toNat) (by omega)).1, (bs_left l m (n := n.toNat) (by omega)).2, ihf _ (hl.of (by omega))]
      · rw [if_neg h1, if_neg h1]
        split
        · exact fmx fun e he => ih e he
        · rfl
where
  fmx {α β : Type} {l : List α} {f g : α → List β} (h : ∀ a ∈ l, f a = g a) : l.flatMap f = l.flatMap g := by
    induction l with
    | nil => rfl
    | cons a l ih => rw [List.flatMap_cons, List.flatMap_cons, h a (by simp), ih fun b hb => h b (by simp [hb])]

theorem fmap_map {l : List T} {f : T → List Nat} {g : T → List Nat} {mv : T → T} {s : Nat} (h : ∀ a ∈ l, f (mv a) = (g a).map (· + s)) : (l.map mv).flatMap f = (l.flatMap g).map (· + s) := by
  induction l with
  | nil => rfl
  | cons a l ih => rw [List.map_cons, List.flatMap_cons, List.flatMap_cons, List.map_append, h a (by simp), ih fun b hb => h b (by simp [hb])]

theorem flat_right (l : List D) {m : List D} (hm : DOk m) : ∀ (f : Nat) (t : T), Ok m.length t → flatF (bsD l m) f (movedT l.length t) = (flatF m f t).map (· + l.length) := by
  intro f
  induction f with
  | zero =>
    intro t h
    induction h with
    | mk k n es h0 h6 h3 hn ha he ih =>
      rw [movedT_mk, flatF.eq_def, flatF.eq_def m]
      simp only []
      by_cases h1 : k = 1
      · obtain ⟨q1, q2⟩ := hn h1
        have e : (movedN (l.length : Int) k n).toNat = n.toNat + l.length := by unfold movedN; rw [if_pos h1]; omega
        rw [if_pos h1, if_pos h1, e, (bs_right l m (n := n.toNat) (by omega)).1]
        split <;> rfl
      · rw [if_neg h1, if_neg h1]
        split
        · exact fmap_map fun e he => ih e he
        · rfl
  | succ f ihf =>
    intro t h
    induction h with
    | mk k n es h0 h6 h3 hn ha he ih =>
      rw [movedT_mk, flatF.eq_def, flatF.eq_def m]
      simp only []
      by_cases h1 : k = 1
      · obtain ⟨q1, q2⟩ := hn h1
        have e : (movedN (l.length : Int) k n).toNat = n.toNat + l.length := by unfold movedN; rw [if_pos h1]; omega
        rw [if_pos h1, if_pos h1, e, (bs_right l m (n := n.toNat) (by omega)).1, (bs_right l m (n := n.toNat) (by omega)).2]
        split
        · exact ihf _ (hm.of (by omega))
        · rfl
      · rw [if_neg h1, if_neg h1]
        split
        · exact fmap_map fun e he => ih e he
        · rfl

theorem flat_fuel {ds : List D} (hds : DOk ds) : ∀ (f m : Nat) (t : T), ds.length ≤ m + f → Ok ds.length t → AT ds m t → ∀ f', ds.length ≤ m + f' → flatF ds f t = flatF ds f' t := by
  intro f
  induction f with
  | zero =>
    intro m t hm hok hat f' hf'
    induction hok with
    | mk k n es h0 h6 h3 hn ha he ih =>
      obtain ⟨_, _, _, hal, hae⟩ := hat
      rw [flatF.eq_def, flatF.eq_def ds f']
      simp only []
      by_cases h1 : k = 1
      · have q := hn h1
        rw [if_pos h1, if_pos h1]
        split
        · rename_i h2
          have := hal h1 h2
          omega
        · rfl
      · rw [if_neg h1, if_neg h1]
        split
        · exact flat_left.fmx fun e he' => ih e he' (hae e he')
        · rfl
  | succ f ihf =>
    intro m t hm hok hat f' hf'
    induction hok with
    | mk k n es h0 h6 h3 hn ha he ih =>
      obtain ⟨_, _, _, hal, hae⟩ := hat
      rw [flatF.eq_def, flatF.eq_def ds f']
      simp only []
      by_cases h1 : k = 1
      · have q := hn h1
        rw [if_pos h1, if_pos h1]
        split
        · rename_i h2
          have h4 := hal h1 h2
          obtain ⟨g, rfl⟩ : ∃ g, f' = g + 1 := ⟨f' - 1, by omega⟩
          exact ihf (n.toNat + 1) _ (by omega) (hds.of (by omega)) (hds.at_ (by omega) h2) g (by omega)
        · rfl
      · rw [if_neg h1, if_neg h1]
        split
        · exact flat_left.fmx fun e he' => ih e he' (hae e he')
        · rfl

theorem bs_bes {l m : List D} (hl : DOk l) (hm : DOk m) : Bes (alOf (bsD l m)) (alOf l) (alOf m) (GG (bsD l m)) (GG l) (GG m) l.length m.length := by
  refine ⟨fun n hn => (bs_left l m hn).1, fun n hn => (bs_right l m hn).1, fun n hn => ?_, fun n hn => ?_, fun n hn x hx => (GG_ok hl n hn x hx).1, fun n hn x hx => (GG_ok hm n hn x hx).1⟩
  · unfold GG
    rw [(bs_left l m hn).2, flat_left hl m _ _ (hl.of hn), bs_len]
    exact flat_fuel hl _ 0 _ (by omega) (hl.of hn) (AT.zero l _) _ (by omega)
  · unfold GG
    rw [(bs_right l m hn).2, flat_right l hm _ _ (hm.of hn), bs_len]
    congr 1
    exact flat_fuel hm _ 0 _ (by omega) (hm.of hn) (AT.zero m _) _ (by omega)

theorem Ok.up {N N' : Nat} {t : T} (h : Ok N t) (hn : N ≤ N') : Ok N' t := by
  induction h with
  | mk k n es h0 h6 h3 hn1 ha he ih => exact .mk k n es h0 h6 h3 (fun h => by have := hn1 h; omega) ha ih

theorem moved_ok {N s : Nat} {t : T} (h : Ok N t) : Ok (s + N) (movedT s t) := by
  induction h with
  | mk k n es h0 h6 h3 hn ha he ih =>
    rw [movedT_mk]
    refine .mk k _ _ h0 h6 (by simpa using h3) (fun h1 => ?_) (fun h => by simpa using ha h) ?_
    · have := hn h1
      unfold movedN
      rw [if_pos h1]
      omega
    · intro e he'
      obtain ⟨e', h4, rfl⟩ := List.mem_map.1 he'
      exact ih e' h4

theorem at_left {l : List D} (m : List D) {j : Nat} {t : T} (hok : Ok l.length t) (h : AT l j t) : AT (bsD l m) j t := by
  induction h with
  | mk k n es ha he ih =>
    obtain ⟨_, _, _, _, _, _, hn, _, hoe⟩ := hok
    refine .mk k n es (fun h1 h2 => ?_) fun e he' => ih e he' (hoe e he')
    have := hn h1
    rw [(bs_left l m (n := n.toNat) (by omega)).1] at h2
    exact ha h1 h2

theorem at_right (l : List D) {m : List D} {j : Nat} {t : T} (hok : Ok m.length t) (h : AT m j t) : AT (bsD l m) (j + l.length) (movedT l.length t) := by
  induction h with
  | mk k n es ha he ih =>
    obtain ⟨_, _, _, _, _, _, hn, _, hoe⟩ := hok
    rw [movedT_mk]
    refine .mk k _ _ (fun h1 h2 => ?_) fun e he' => ?_
    · have q := hn h1
      have e : (movedN (l.length : Int) k n).toNat = n.toNat + l.length := by unfold movedN; rw [if_pos h1]; omega
      rw [e] at h2 ⊢
      rw [(bs_right l m (n := n.toNat) (by omega)).1] at h2
      have := ha h1 h2
      omega
    · obtain ⟨e', h4, rfl⟩ := List.mem_map.1 he'
      exact ih e' h4 (hoe e' h4)

theorem bs_ok {l m : List D} (hl : DOk l) (hm : DOk m) : DOk (bsD l m) := by
  refine ⟨fun d hd => ?_, fun i d hd ha => ?_⟩
  · rw [bs_len]
    unfold bsD at hd
    rcases List.mem_append.1 hd with hd | hd
    · exact (hl.ok d hd).up (by omega)
    · obtain ⟨d0, h0, rfl⟩ := List.mem_map.1 hd
      exact moved_ok (hm.ok d0 h0)
  · unfold bsD at hd
    rcases Nat.lt_or_ge i l.length with hi | hi
    · rw [List.getElem?_append_left hi] at hd
      exact at_left m (hl.ok d (List.mem_of_getElem? hd)) (hl.al i d hd ha)
    · rw [List.getElem?_append_right hi, List.getElem?_map] at hd
      cases hq : m[i - l.length]? with
      | none => rw [hq] at hd; cases hd
      | some d0 =>
        rw [hq] at hd
        simp at hd
        subst hd
        have h1 := at_right l (hm.ok d0 (List.mem_of_getElem? hq)) (hm.al _ d0 hq ha)
        rw [show i + 1 = i - l.length + 1 + l.length from by omega]
        exact h1

theorem bs_final {l m : List D} (hl : DOk l) (hm : DOk m) :
    vtValid (alOf (bsD l m)) (GG (bsD l m)) (l.length + m.length) = vtValid (alOf l) (GG l) l.length ++ vtValid (alOf m) (GG m) m.length ∧ vtMarked (alOf (bsD l m)) (GG (bsD l m)) (l.length + m.length) = vtMarked (alOf l) (GG l) l.length ++ vtMarked (alOf m) (GG m) m.length ∧
    vtCycles (alOf (bsD l m)) (GG (bsD l m)) (l.length + m.length) = vtCycles (alOf l) (GG l) l.length ++ (vtCycles (alOf m) (GG m) m.length).map (sh l.length) := by
  refine bes_ans (bs_bes hl hm) fun n hn => ?_
  cases h : (vt (alOf l) (GG l) l.length l.length).2.1 n
  · rfl
  · have := (mk_cyc (GG_ok hl) l.length (Nat.le_refl _) n h).1
    omega

end Go.Proofs.Ytnaedpfaeioolaa
