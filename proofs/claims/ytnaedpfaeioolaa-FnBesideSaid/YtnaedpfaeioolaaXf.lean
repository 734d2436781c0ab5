/- What spec.Fit returns is as the statements speak of it. -/
import Derived.Test.YtnaedpfaeioolaaVq
namespace Go.Proofs.Ytnaedpfaeioolaa
open Go.RowKit
set_option linter.unusedVariables false

theorem fitT_ok (al : Nat → Bool) (L fr : Nat) (hL : 0 < L) : ∀ (t : T) (d : Nat), Ok L (fitT al L fr d t) := by
  intro t
  induction t using T.ind with
  | _ k n es ih =>
    intro d
    rw [fitT_mk]
    obtain ⟨_, _, hk0, hk6, _⟩ := fitK_bd k
    obtain ⟨_, _, hn0, hnL, _⟩ := fitN_bd L hL n
    have leaf : Ok L (.mk 0 0 []) := .mk 0 0 [] (by omega) (by omega) (by simp) (by omega) (by omega) (by simp)
    split
    · split
      · exact leaf
      · exact .mk 1 _ [] (by omega) (by omega) (by simp) (fun _ => ⟨hn0, hnL⟩) (by omega) (by simp)
    · rename_i h1
      have hes : ∀ e ∈ fitE (fitK k) (fitL al L fr d (fitK k) es), Ok L e := by
        intro e he
        unfold fitE at he
        split at he
        · simp at he; subst he; exact leaf
        · unfold fitL at he
          cases d with
          | zero => simp at he
          | succ d =>
            simp only [] at he
            split at he
            · simp at he
            · obtain ⟨e', he', rfl⟩ := List.mem_map.1 he
              exact ih e' (List.mem_of_mem_take he') d
      have hl3 : (fitE (fitK k) (fitL al L fr d (fitK k) es)).length ≤ 3 := by
        unfold fitE
        split
        · simp
        · unfold fitL
          cases d with
          | zero => simp
          | succ d =>
            simp only []
            split
            · simp
            · split <;> simp <;> omega
      refine .mk _ 0 _ hk0 hk6 hl3 (fun h => absurd h h1) (fun h3 => ?_) hes
      unfold fitE
      split
      · rfl
      · rename_i h4
        have hne : fitL al L fr d (fitK k) es ≠ [] := fun h => h4 ⟨h3, h⟩
        unfold fitL at hne ⊢
        cases d with
        | zero => simp at hne
        | succ d =>
          simp only [h3, if_true] at hne ⊢
          split at hne
          · simp at hne
          · rw [if_neg (by omega)]
            cases es with
            | nil => simp at hne
            | cons e es => simp

theorem fitT_at (ds : List D) (L fr : Nat) (hL : 0 < L) (hfr : alOf ds fr = true) : ∀ (t : T) (d : Nat), AT ds (fr + 1) (fitT (alOf ds) L fr d t) := by
  intro t
  induction t using T.ind with
  | _ k n es ih =>
    intro d
    rw [fitT_mk]
    obtain ⟨_, _, hn0, hnL, _⟩ := fitN_bd L hL n
    have leaf : AT ds (fr + 1) (.mk 0 0 []) := .mk 0 0 [] (by omega) (by simp)
    split
    · split
      · exact leaf
      · rename_i h2
        refine .mk 1 _ [] (fun _ ha => ?_) (by simp)
        rcases Nat.lt_or_ge fr (fitN L n).toNat with h | h
        · exact h
        · exact absurd ⟨hfr, ha, by omega⟩ h2
    · rename_i h1
      refine .mk _ 0 _ (fun h => absurd h h1) ?_
      intro e he
      unfold fitE at he
      split at he
      · simp at he; subst he; exact leaf
      · unfold fitL at he
        cases d with
        | zero => simp at he
        | succ d =>
          simp only [] at he
          split at he
          · simp at he
          · obtain ⟨e', he', rfl⟩ := List.mem_map.1 he
            exact ih e' (List.mem_of_mem_take he') d

theorem AT.congr {ds ds' : List D} {m : Nat} {t : T} (h : AT ds m t) (he : alOf ds = alOf ds') : AT ds' m t := by
  induction h with
  | mk k n es ha hh ih => exact .mk k n es (fun h1 h2 => ha h1 (by rw [he]; exact h2)) ih

theorem fitD_len (ds : List D) : (fitD ds).length = min ds.length 8 := by
  unfold fitD
  rw [fit2_len, fit1_len, List.length_take, Nat.min_comm]

theorem fitD_8 (ds : List D) : (fitD ds).length ≤ 8 := by rw [fitD_len]; omega

theorem fitD_ok (ds : List D) : DOk (fitD ds) := by
  have hl : (fitD ds).length = (fit1 (ds.take 8)).length := by unfold fitD; rw [fit2_len]
  have hal : alOf (fitD ds) = alOf (fit1 (ds.take 8)) := by unfold fitD; rw [fit2_al]
  have hget : ∀ (i : Nat) (d : D), (fitD ds)[i]? = some d → ∃ d0 : D, d = ⟨d0.alias, fitT (alOf (fit1 (ds.take 8))) (fit1 (ds.take 8)).length i 2 d0.of⟩ ∧ i < (fit1 (ds.take 8)).length ∧ alOf (fit1 (ds.take 8)) i = d0.alias := by
    intro i d hd
    have hi := (List.getElem?_eq_some_iff.1 hd).1
    rw [hl] at hi
    unfold fitD fit2 at hd
    rw [List.getElem?_mapIdx, List.getElem?_eq_getElem hi] at hd
    simp only [Option.map_some, Option.some.injEq] at hd
    rw [if_pos (by rw [fit1_len] at hi; exact hi)] at hd
    refine ⟨_, hd.symm, hi, ?_⟩
    unfold alOf
    rw [getD_of hi]
  refine ⟨fun d hd => ?_, fun i d hd ha => ?_⟩
  · obtain ⟨i, hi⟩ := List.mem_iff_getElem?.1 hd
    obtain ⟨d0, rfl, hil, _⟩ := hget i d hi
    rw [hl]
    exact fitT_ok _ _ _ (by omega) _ _
  · obtain ⟨d0, rfl, hil, h1⟩ := hget i d hd
    refine (fitT_at (fit1 (ds.take 8)) _ i (by omega) (by rw [h1]; exact ha) _ _).congr hal.symm

end Go.Proofs.Ytnaedpfaeioolaa
