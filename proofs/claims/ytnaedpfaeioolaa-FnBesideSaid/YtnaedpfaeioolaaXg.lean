/- The search for types that contain themselves, seen as one for cycles of a graph: what it finds is a cycle; where it finds none there is none. No program in sight. -/
import Derived.Test.YtnaedpfaeioolaaWp
import Derived.Test.YtnaedpfaeioolaaDP
namespace Go.Proofs.Ytnaedpfaeioolaa
set_option linter.unusedVariables false

/-- b is reached from a in one step or more; those that are marked lead nowhere. -/
inductive Rch (F : Nat → List Nat) (M : Nat → Bool) : Nat → Nat → Prop
  | one {a b : Nat} (hm : M a = false) (h : b ∈ F a) : Rch F M a b
  | more {a b c : Nat} (hm : M a = false) (h : b ∈ F a) (hr : Rch F M b c) : Rch F M a c

section
variable {F : Nat → List Nat} {M M' : Nat → Bool} {g N : Nat} {path l c : List Nat}

theorem Rch.trans {a b c : Nat} (h : Rch F M a b) (k : Rch F M b c) : Rch F M a c := by
  induction h with
  | one hm h => exact .more hm h k
  | more hm h _ ih => exact .more hm h (ih k)

theorem Rch.mono {a b : Nat} (h : Rch F M a b) (hm : ∀ x, M x = false → M' x = false) : Rch F M' a b := by
  induction h with
  | one h1 h => exact .one (hm _ h1) h
  | more h1 h _ ih => exact .more (hm _ h1) h ih

/-- Each leads to the next one, the last one to the first. -/
structure IsCyc (F : Nat → List Nat) (M : Nat → Bool) (c : List Nat) : Prop where
  ne : c ≠ []
  edge : ∀ (i : Nat) (h : i + 1 < c.length), c[i + 1] ∈ F c[i]
  close : c.head ne ∈ F (c.getLast ne)
  unm : ∀ x ∈ c, M x = false
  nodup : c.Nodup

theorem chain_rch (hu : ∀ x ∈ c, M x = false) (he : ∀ (i : Nat) (h : i + 1 < c.length), c[i + 1] ∈ F c[i]) : ∀ (d i : Nat) (h : i + d + 1 < c.length), Rch F M c[i] c[i + d + 1] := by
  intro d
  induction d with
  | zero => intro i h; exact .one (hu _ (List.getElem_mem _)) (he i h)
  | succ d ih =>
    intro i h
    have h1 := ih (i + 1) (by omega)
    have h2 := he i (by omega)
    have e : c[i + 1 + d + 1] = c[i + (d + 1) + 1] := by congr 1; omega
    rw [e] at h1
    exact .more (hu _ (List.getElem_mem _)) h2 h1

theorem IsCyc.head (h : IsCyc F M c) : Rch F M (c.head h.ne) (c.head h.ne) := by
  have hl : 0 < c.length := List.length_pos_iff.2 h.ne
  have hlast : c.getLast h.ne = c[c.length - 1] := List.getLast_eq_getElem ..
  have hhead : c.head h.ne = c[0] := List.head_eq_getElem ..
  have hcl := h.close
  rw [hlast] at hcl
  have h1 : Rch F M c[c.length - 1] (c.head h.ne) := .one (h.unm _ (List.getElem_mem _)) hcl
  by_cases h0 : c.length = 1
  · have e : c[c.length - 1] = c[0] := by congr 1; omega
    rw [e, ← hhead] at h1
    exact h1
  · have h2 := chain_rch h.unm h.edge (c.length - 2) 0 (by omega)
    have e : c[0 + (c.length - 2) + 1] = c[c.length - 1] := by congr 1; omega
    rw [e, ← hhead] at h2
    exact h2.trans h1

/-- The way that has been gone so far. -/
structure PathOk (F : Nat → List Nat) (M : Nat → Bool) (path l : List Nat) : Prop where
  edge : ∀ (i : Nat) (h : i + 1 < path.length), path[i + 1] ∈ F path[i]
  unm : ∀ x ∈ path, M x = false
  nodup : path.Nodup
  next : ∀ n ∈ l, ∀ h : path ≠ [], n ∈ F (path.getLast h)

theorem PathOk.push (h : PathOk F M path l) {n : Nat} (hn : n ∈ l) (hp : n ∉ path) (hm : M n = false) : PathOk F M (path ++ [n]) (F n) := by
  refine ⟨fun i hi => ?_, fun x hx => ?_, ?_, fun m hm' hne => by simpa using hm'⟩
  · by_cases h1 : i + 1 < path.length
    · rw [List.getElem_append_left h1, List.getElem_append_left (by omega)]
      exact h.edge i h1
    · have hi' : i + 1 = path.length := by simp at hi; omega
      have hne : path ≠ [] := by intro e; subst e; simp at hi'
      have h2 := h.next n hn hne
      rw [List.getLast_eq_getElem] at h2
      rw [List.getElem_append_right (show path.length ≤ i + 1 by omega), List.getElem_append_left (show i < path.length by omega)]
      have e : path[path.length - 1] = path[i] := by congr 1; omega
      rw [e] at h2
      simpa [hi'] using h2
  · simp at hx
    rcases hx with hx | rfl
    · exact h.unm x hx
    · exact hm
  · rw [List.nodup_append]
    refine ⟨h.nodup, by simp, ?_⟩
    intro a ha b hb
    simp at hb
    subst hb
    intro e
    exact hp (e ▸ ha)

theorem PathOk.sub {l' : List Nat} (h : PathOk F M path l) (hs : ∀ n ∈ l', n ∈ l) : PathOk F M path l' := ⟨h.edge, h.unm, h.nodup, fun n hn hne => h.next n (hs n hn) hne⟩

/-- What is found is a cycle, and it is reached. -/
theorem find_some : ∀ (g : Nat) (path l : List Nat), PathOk F M path l → find F M g path l = some c → IsCyc F M c ∧ ∀ x ∈ c, x ∈ path ∨ ∃ n ∈ l, x = n ∨ Rch F M n x := by
  intro g
  induction g with
  | zero =>
    intro path l
    induction l with
    | nil => intro _ h; rw [find_nil] at h; cases h
    | cons n rest ih =>
      intro hp h
      by_cases hin : n ∈ path
      · rw [find_in _ hin] at h
        simp at h
        subst h
        refine ⟨?_, fun x hx => Or.inl (List.mem_of_mem_drop hx)⟩
        have hl := List.idxOf_lt_length_of_mem hin
        have hd := drop_idx hin
        have hne : path.drop (path.idxOf n) ≠ [] := by rw [hd]; simp
        refine ⟨hne, fun i hi => ?_, ?_, fun x hx => hp.unm x (List.mem_of_mem_drop hx), (List.drop_sublist _ _).nodup hp.nodup⟩
        · simp only [List.length_drop] at hi
          rw [List.getElem_drop, List.getElem_drop]
          exact hp.edge (path.idxOf n + i) (by omega)
        · have h1 : (path.drop (path.idxOf n)).head hne = n := by
            rw [List.head_drop]; exact List.getElem_idxOf hl
          have h2 : (path.drop (path.idxOf n)).getLast hne = path.getLast (by rintro rfl; simp at hin) := List.getLast_drop hne
          rw [h1, h2]
          exact hp.next n (by simp) _
      · have h' : find F M 0 path rest = some c := by
          by_cases hm : M n = true
          · rwa [find_marked _ hin hm] at h
          · rwa [find_zero _ hin] at h
        obtain ⟨h1, h2⟩ := ih (hp.sub fun n hn => by simp [hn]) h'
        refine ⟨h1, fun x hx => ?_⟩
        rcases h2 x hx with h3 | ⟨n', hn', h3⟩
        · exact Or.inl h3
        · exact Or.inr ⟨n', by simp [hn'], h3⟩
  | succ g ihg =>
    intro path l
    induction l with
    | nil => intro _ h; rw [find_nil] at h; cases h
    | cons n rest ih =>
      intro hp h
      by_cases hin : n ∈ path
      · rw [find_in _ hin] at h
        simp at h
        subst h
        refine ⟨?_, fun x hx => Or.inl (List.mem_of_mem_drop hx)⟩
        have hl := List.idxOf_lt_length_of_mem hin
        have hd := drop_idx hin
        have hne : path.drop (path.idxOf n) ≠ [] := by rw [hd]; simp
        refine ⟨hne, fun i hi => ?_, ?_, fun x hx => hp.unm x (List.mem_of_mem_drop hx), (List.drop_sublist _ _).nodup hp.nodup⟩
        · simp only [List.length_drop] at hi
          rw [List.getElem_drop, List.getElem_drop]
          exact hp.edge (path.idxOf n + i) (by omega)
        · have h1 : (path.drop (path.idxOf n)).head hne = n := by
            rw [List.head_drop]; exact List.getElem_idxOf hl
          have h2 : (path.drop (path.idxOf n)).getLast hne = path.getLast (by rintro rfl; simp at hin) := List.getLast_drop hne
          rw [h1, h2]
          exact hp.next n (by simp) _
      · have key : (M n = false ∧ find F M g (path ++ [n]) (F n) = some c) ∨ find F M (g + 1) path rest = some c := by
          by_cases hm : M n = true
          · rw [find_marked _ hin hm] at h
            exact Or.inr h
          · have hm : M n = false := by simpa using hm
            rw [find_go _ hin hm] at h
            cases hf : find F M g (path ++ [n]) (F n) with
            | none => rw [hf] at h; exact Or.inr h
            | some c' => rw [hf] at h; simp at h; subst h; exact Or.inl ⟨hm, rfl⟩
        rcases key with ⟨hm, hf⟩ | hf
        · obtain ⟨h1, h2⟩ := ihg _ _ (hp.push (by simp) hin hm) hf
          refine ⟨h1, fun x hx => ?_⟩
          rcases h2 x hx with h3 | ⟨m, hm', h3⟩
          · simp at h3
            rcases h3 with h3 | rfl
            · exact Or.inl h3
            · exact Or.inr ⟨x, by simp, Or.inl rfl⟩
          · refine Or.inr ⟨n, by simp, Or.inr ?_⟩
            rcases h3 with rfl | h3
            · exact .one hm hm'
            · exact .more hm hm' h3
        · obtain ⟨h1, h2⟩ := ih (hp.sub fun n hn => by simp [hn]) hf
          refine ⟨h1, fun x hx => ?_⟩
          rcases h2 x hx with h3 | ⟨n', hn', h3⟩
          · exact Or.inl h3
          · exact Or.inr ⟨n', by simp [hn'], h3⟩

theorem find_mem_none {n : Nat} (h : find F M g path l = none) (hn : n ∈ l) : find F M g path [n] = none := by
  obtain ⟨a, b, rfl⟩ := List.append_of_mem hn
  rw [find_append, show n :: b = [n] ++ b from rfl, find_append] at h
  cases h1 : find F M g path a with
  | some c => rw [h1] at h; simp at h
  | none =>
    rw [h1] at h
    cases h2 : find F M g path [n] with
    | some c => rw [h2] at h; simp at h
    | none => rfl

/-- Where nothing is found, there is no cycle. -/
theorem find_none (hF : ∀ n, n < N → ∀ m ∈ F n, m < N) : ∀ (g : Nat) (path l : List Nat), N ≤ path.length + g → path.Nodup → (∀ x ∈ path, x < N) → (∀ n ∈ l, n < N) → find F M g path l = none →
    ∀ n ∈ l, n ∉ path ∧ (∀ x, Rch F M n x → x ∉ path) ∧ ¬ Rch F M n n ∧ ∀ x, Rch F M n x → ¬ Rch F M x x := by
  intro g
  induction g with
  | zero =>
    intro path l hN hnd hp hl h n hn
    have h1 := find_mem_none h hn
    have hin : n ∉ path := fun hin => by rw [find_in _ hin] at h1; cases h1
    exfalso
    have h2 : (path ++ [n]).length ≤ N := nodup_le N _ (by
      rw [List.nodup_append]
      refine ⟨hnd, by simp, ?_⟩
      intro a ha b hb
      simp at hb
      subst hb
      intro e
      exact hin (e ▸ ha)) (by
      intro x hx
      simp at hx
      rcases hx with hx | rfl
      · exact hp x hx
      · exact hl x hn)
    simp at h2
    omega
  | succ g ih =>
    intro path l hN hnd hp hl h n hn
    have h1 := find_mem_none h hn
    have hin : n ∉ path := fun hin => by rw [find_in _ hin] at h1; cases h1
    by_cases hm : M n = true
    · have hno : ∀ x, ¬ Rch F M n x := by
        intro x hx
        cases hx with
        | one h _ => rw [hm] at h; cases h
        | more h _ _ => rw [hm] at h; cases h
      exact ⟨hin, fun x hx => absurd hx (hno x), hno n, fun x hx => absurd hx (hno x)⟩
    · have hm : M n = false := by simpa using hm
      rw [find_go _ hin hm, find_nil, Option.or_none] at h1
      have hnd' : (path ++ [n]).Nodup := by
        rw [List.nodup_append]
        refine ⟨hnd, by simp, ?_⟩
        intro a ha b hb
        simp at hb
        subst hb
        intro e
        exact hin (e ▸ ha)
      have hp' : ∀ x ∈ path ++ [n], x < N := by
        intro x hx
        simp at hx
        rcases hx with hx | rfl
        · exact hp x hx
        · exact hl x hn
      have key := ih (path ++ [n]) (F n) (by simp; omega) hnd' hp' (hF n (hl n hn)) h1
      have hr : ∀ x, Rch F M n x → x ∉ path ++ [n] ∧ ¬ Rch F M x x := by
        intro x hx
        cases hx with
        | one _ h => exact ⟨(key x h).1, (key x h).2.2.1⟩
        | more _ h h2 => exact ⟨(key _ h).2.1 x h2, (key _ h).2.2.2 x h2⟩
      refine ⟨hin, fun x hx h2 => (hr x hx).1 (by simp [h2]), fun hx => (hr n hx).1 (by simp), fun x hx => (hr x hx).2⟩
end

end Go.Proofs.Ytnaedpfaeioolaa
