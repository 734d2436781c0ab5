/- Declarations beside others: what the plain check answers. No program in sight. -/
import Derived.Test.YtnaedpfaeioolaaXv
namespace Go.Proofs.Ytnaedpfaeioolaa
set_option linter.unusedVariables false

section
variable {F F' : Nat → List Nat} {M M' : Nat → Bool} {N : Nat}

theorem nodup_push {path : List Nat} {n : Nat} (h : path.Nodup) (hn : n ∉ path) : (path ++ [n]).Nodup := by
  rw [List.nodup_append]
  refine ⟨h, by simp, ?_⟩
  intro a ha b hb
  simp at hb
  subst hb
  intro e
  exact hn (e ▸ ha)

/-- The search sees nothing beyond what it reaches; and more depth than it needs does not matter. -/
theorem find_eq (hF : ∀ n, n < N → F' n = F n) (hM : ∀ n, n < N → M' n = M n) (hc : ∀ n, n < N → ∀ m ∈ F n, m < N) : ∀ (g g' : Nat) (path l : List Nat), path.Nodup → (∀ x ∈ path, x < N) → (∀ x ∈ l, x < N) → N ≤ path.length + g → N ≤ path.length + g' → find F' M' g path l = find F M g' path l := by
  intro g
  induction g with
  | zero =>
    intro g' path l hnd hp hl hg hg'
    induction l with
    | nil => rw [find_nil, find_nil]
    | cons n rest ih =>
      have hn : n ∈ path := by
        apply Classical.byContradiction
        intro hn
        have := nodup_le N (path ++ [n]) (nodup_push hnd hn) (by
          intro x hx
          simp at hx
          rcases hx with hx | rfl
          · exact hp x hx
          · exact hl x (by simp))
        simp at this
        omega
      rw [find_in _ hn, find_in _ hn]
  | succ g ihg =>
    intro g' path l hnd hp hl hg hg'
    induction l with
    | nil => rw [find_nil, find_nil]
    | cons n rest ih =>
      have hnl := hl n (by simp)
      have ihr := ih fun x hx => hl x (by simp [hx])
      by_cases hn : n ∈ path
      · rw [find_in _ hn, find_in _ hn]
      · by_cases hm : M n = true
        · rw [find_marked _ hn (by rw [hM n hnl]; exact hm), find_marked _ hn hm, ihr]
        · have hm : M n = false := by simpa using hm
          have hp' : ∀ x ∈ path ++ [n], x < N := by
            intro x hx
            simp at hx
            rcases hx with hx | rfl
            · exact hp x hx
            · exact hnl
          have hlen := nodup_le N _ (nodup_push hnd hn) hp'
          simp at hlen
          obtain ⟨g2, rfl⟩ : ∃ g2, g' = g2 + 1 := ⟨g' - 1, by omega⟩
          rw [find_go _ hn (by rw [hM n hnl]; exact hm), find_go _ hn hm, ihr, hF n hnl, ihg g2 (path ++ [n]) (F n) (nodup_push hnd hn) hp' (hc n hnl) (by simp; omega) (by simp; omega)]

theorem idxOf_shift (s n : Nat) : ∀ path : List Nat, (path.map (· + s)).idxOf (n + s) = path.idxOf n
  | [] => rfl
  | a :: path => by
    rw [List.map_cons, List.idxOf_cons, List.idxOf_cons, idxOf_shift s n path]
    by_cases h : a = n
    · subst h; simp
    · have h1 : (a == n) = false := by simpa using h
      have h2 : (a + s == n + s) = false := by simp; omega
      rw [h1, h2]

theorem mem_shift {s n : Nat} {path : List Nat} : n + s ∈ path.map (· + s) ↔ n ∈ path := by
  rw [List.mem_map]
  constructor
  · rintro ⟨a, ha, e⟩
    have : a = n := by omega
    exact this ▸ ha
  · intro h
    exact ⟨n, h, rfl⟩

/-- All numbers moved. -/
theorem find_shift (s : Nat) (hF : ∀ n, n < N → F' (n + s) = (F n).map (· + s)) (hM : ∀ n, n < N → M' (n + s) = M n) (hc : ∀ n, n < N → ∀ m ∈ F n, m < N) : ∀ (g : Nat) (path l : List Nat), (∀ x ∈ l, x < N) → find F' M' g (path.map (· + s)) (l.map (· + s)) = (find F M g path l).map (List.map (· + s)) := by
  intro g
  induction g with
  | zero =>
    intro path l hl
    induction l with
    | nil => rw [List.map_nil, find_nil, find_nil]; rfl
    | cons n rest ih =>
      rw [List.map_cons]
      have ihr := ih fun x hx => hl x (by simp [hx])
      by_cases hn : n ∈ path
      · rw [find_in _ hn, find_in _ (mem_shift.2 hn), idxOf_shift, ← List.map_drop]; rfl
      · rw [find_zero _ hn, find_zero _ (fun h => hn (mem_shift.1 h)), ihr]
  | succ g ihg =>
    intro path l hl
    induction l with
    | nil => rw [List.map_nil, find_nil, find_nil]; rfl
    | cons n rest ih =>
      rw [List.map_cons]
      have hnl := hl n (by simp)
      have ihr := ih fun x hx => hl x (by simp [hx])
      by_cases hn : n ∈ path
      · rw [find_in _ hn, find_in _ (mem_shift.2 hn), idxOf_shift, ← List.map_drop]; rfl
      · have hn' : n + s ∉ path.map (· + s) := fun h => hn (mem_shift.1 h)
        by_cases hm : M n = true
        · rw [find_marked _ hn hm, find_marked _ hn' (by rw [hM n hnl]; exact hm), ihr]
        · have hm : M n = false := by simpa using hm
          rw [find_go _ hn hm, find_go _ hn' (by rw [hM n hnl]; exact hm), ihr, hF n hnl]
          have h1 := ihg (path ++ [n]) (F n) (hc n hnl)
          rw [List.map_append] at h1
          rw [show path.map (· + s) ++ [n + s] = path.map (· + s) ++ List.map (· + s) [n] from rfl, h1]
          cases find F M g (path ++ [n]) (F n) <;> rfl
end

section
variable {al al1 al2 : Nat → Bool} {F F1 F2 : Nat → List Nat} {N1 N2 : Nat}

/-- Beside each other. -/
structure Bes (al al1 al2 : Nat → Bool) (F F1 F2 : Nat → List Nat) (N1 N2 : Nat) : Prop where
  a1 : ∀ n, n < N1 → al n = al1 n
  a2 : ∀ n, n < N2 → al (n + N1) = al2 n
  f1 : ∀ n, n < N1 → F n = F1 n
  f2 : ∀ n, n < N2 → F (n + N1) = (F2 n).map (· + N1)
  c1 : ∀ n, n < N1 → ∀ m ∈ F1 n, m < N1
  c2 : ∀ n, n < N2 → ∀ m ∈ F2 n, m < N2

theorem bes_one (h : Bes al al1 al2 F F1 F2 N1 N2) : ∀ k, k ≤ N1 → (vt al F (N1 + N2) k).1 = (vt al1 F1 N1 k).1 ∧ (∀ n, (vt al F (N1 + N2) k).2.1 n = (vt al1 F1 N1 k).2.1 n) ∧ (vt al F (N1 + N2) k).2.2 = (vt al1 F1 N1 k).2.2 := by
  intro k
  induction k with
  | zero => intro _; exact ⟨rfl, fun _ => rfl, rfl⟩
  | succ k ih =>
    intro hk
    obtain ⟨h1, h2, h3⟩ := ih (by omega)
    rw [vt_succ, vt_succ]
    have hf : find F (vt al F (N1 + N2) k).2.1 (N1 + N2) [] [k] = find F1 (vt al1 F1 N1 k).2.1 N1 [] [k] :=
      find_eq h.f1 (fun n _ => h2 n) h.c1 _ _ [] [k] List.nodup_nil (by simp) (by simp; omega) (by simp) (by simp)
    unfold vtStep
    rw [h.a1 k (by omega), hf, h1, h3]
    split
    · exact ⟨rfl, h2, h3⟩
    · refine ⟨rfl, fun n => ?_, rfl⟩
      cases hr : find F1 (vt al1 F1 N1 k).2.1 N1 [] [k] with
      | none => exact h2 n
      | some c =>
        cases c with
        | nil => exact h2 n
        | cons m c => show (decide (n = m) || _) = (decide (n = m) || _); rw [h2 n]

def sh (s : Nat) (c : List Int) : List Int := c.map (· + (s : Int))

theorem bes_two (h : Bes al al1 al2 F F1 F2 N1 N2) (hm1 : ∀ n, N1 ≤ n → (vt al1 F1 N1 N1).2.1 n = false) : ∀ k, k ≤ N2 → (vt al F (N1 + N2) (N1 + k)).1 = (vt al1 F1 N1 N1).1 ++ (vt al2 F2 N2 k).1 ∧
    (∀ n, (vt al F (N1 + N2) (N1 + k)).2.1 n = if n < N1 then (vt al1 F1 N1 N1).2.1 n else (vt al2 F2 N2 k).2.1 (n - N1)) ∧ (vt al F (N1 + N2) (N1 + k)).2.2 = (vt al1 F1 N1 N1).2.2 ++ (vt al2 F2 N2 k).2.2.map (sh N1) := by
  intro k
  induction k with
  | zero =>
    intro _
    obtain ⟨h1, h2, h3⟩ := bes_one h N1 (Nat.le_refl _)
    refine ⟨by simpa [vt] using h1, fun n => ?_, by simpa [vt] using h3⟩
    rw [Nat.add_zero, h2 n]
    split
    · rfl
    · rw [hm1 n (by omega)]; rfl
  | succ k ih =>
    intro hk
    obtain ⟨h1, h2, h3⟩ := ih (by omega)
    rw [show N1 + (k + 1) = (N1 + k) + 1 from by omega, vt_succ, vt_succ]
    have hf : find F (vt al F (N1 + N2) (N1 + k)).2.1 (N1 + N2) [] [N1 + k] = (find F2 (vt al2 F2 N2 k).2.1 N2 [] [k]).map (List.map (· + N1)) := by
      have e1 := find_shift (F' := F) (M' := (vt al F (N1 + N2) (N1 + k)).2.1) (F := F2) (M := (vt al2 F2 N2 k).2.1) (N := N2) N1 h.f2 (fun n hn => by rw [h2 (n + N1), if_neg (by omega), Nat.add_sub_cancel]) h.c2 (N1 + N2) [] [k] (by simp; omega)
      have e2 : find F2 (vt al2 F2 N2 k).2.1 (N1 + N2) [] [k] = find F2 (vt al2 F2 N2 k).2.1 N2 [] [k] :=
        find_eq (fun _ _ => rfl) (fun _ _ => rfl) h.c2 _ _ [] [k] List.nodup_nil (by simp) (by simp; omega) (by simp) (by simp)
      rw [e2] at e1
      rw [show N1 + k = k + N1 from Nat.add_comm _ _] at e1 ⊢
      exact e1
    have ha : al (N1 + k) = al2 k := by rw [Nat.add_comm]; exact h.a2 k (by omega)
    unfold vtStep
    rw [ha, hf, h1, h3]
    split
    · exact ⟨by simp, h2, h3⟩
    · cases hr : find F2 (vt al2 F2 N2 k).2.1 N2 [] [k] with
      | none => exact ⟨by simp, h2, by simp [addc]⟩
      | some c =>
        refine ⟨by simp, fun n => ?_, ?_⟩
        · cases c with
          | nil => exact h2 n
          | cons m c =>
            show (decide (n = m + N1) || (vt al F (N1 + N2) (N1 + k)).2.1 n) = if n < N1 then (vt al1 F1 N1 N1).2.1 n else (decide (n - N1 = m) || (vt al2 F2 N2 k).2.1 (n - N1))
            rw [h2 n]
            by_cases hn : n < N1
            · rw [if_pos hn, if_pos hn]
              have : decide (n = m + N1) = false := by simp; omega
              rw [this]; rfl
            · rw [if_neg hn, if_neg hn]
              congr 1
              rw [decide_eq_decide]
              omega
        · simp [addc, sh]

/-- Declarations behind others to which they do not refer are valid, and marked, as by themselves. -/
theorem bes_ans (h : Bes al al1 al2 F F1 F2 N1 N2) (hm1 : ∀ n, N1 ≤ n → (vt al1 F1 N1 N1).2.1 n = false) : vtValid al F (N1 + N2) = vtValid al1 F1 N1 ++ vtValid al2 F2 N2 ∧ vtMarked al F (N1 + N2) = vtMarked al1 F1 N1 ++ vtMarked al2 F2 N2 ∧
    vtCycles al F (N1 + N2) = vtCycles al1 F1 N1 ++ (vtCycles al2 F2 N2).map (sh N1) := by
  obtain ⟨h1, h2, h3⟩ := bes_two h hm1 N2 (Nat.le_refl _)
  refine ⟨h1, ?_, h3⟩
  unfold vtMarked
  rw [List.range_add, List.map_append, List.map_map]
  congr 1
  · apply List.map_congr_left
    intro n hn
    have hn' := List.mem_range.1 hn
    rw [h.a1 n hn', h2 n, if_pos hn']
  · apply List.map_congr_left
    intro n hn
    have hn' := List.mem_range.1 hn
    show (!al (N1 + n) && (vt al F (N1 + N2) (N1 + N2)).2.1 (N1 + n)) = _
    rw [h2 (N1 + n), if_neg (by omega), show N1 + n - N1 = n from by omega, show N1 + n = n + N1 from Nat.add_comm _ _, h.a2 n hn']
end

end Go.Proofs.Ytnaedpfaeioolaa
