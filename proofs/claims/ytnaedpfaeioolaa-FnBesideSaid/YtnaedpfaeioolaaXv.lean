/- What the plain check of declarations answers, said of cycles. No program in sight. -/
import Derived.Test.YtnaedpfaeioolaaXg
namespace Go.Proofs.Ytnaedpfaeioolaa
set_option linter.unusedVariables false

abbrev noMk : Nat → Bool := fun _ => false

section
variable {al : Nat → Bool} {F : Nat → List Nat} {N : Nat}

/-- What is contained is a defined type. -/
def FOk (al : Nat → Bool) (F : Nat → List Nat) (N : Nat) : Prop := ∀ n, n < N → ∀ m ∈ F n, m < N ∧ al m = false

abbrev mk (al : Nat → Bool) (F : Nat → List Nat) (N k : Nat) : Nat → Bool := (vt al F N k).2.1

theorem rch_ok (hF : FOk al F N) {M : Nat → Bool} {a b : Nat} (ha : a < N) (h : Rch F M a b) : b < N ∧ al b = false := by
  induction h with
  | one _ hb => exact hF _ ha _ hb
  | more _ hb _ ih => exact ih (hF _ ha _ hb).1

theorem mk_some {i : Nat} {c : List Nat} (ha : al i = false) (hf : find F (mk al F N i) N [] [i] = some c) (hc : c ≠ []) : mk al F N (i + 1) = fun x => decide (x = c.head hc) || mk al F N i x := by
  unfold mk
  rw [vt_succ]
  unfold vtStep
  rw [if_neg (by rw [ha]; decide)]
  unfold mk at hf
  simp only [hf]
  cases c with
  | nil => exact absurd rfl hc
  | cons n c => rfl
theorem mk_none {i : Nat} (h : al i = true ∨ find F (mk al F N i) N [] [i] = none) : mk al F N (i + 1) = mk al F N i := by
  unfold mk at *
  rw [vt_succ]
  unfold vtStep
  rcases h with h | h
  · rw [if_pos h]
  · split
    · rfl
    · simp only [h]; rfl

theorem pathOk0 (F : Nat → List Nat) (M : Nat → Bool) (l : List Nat) : PathOk F M [] l := ⟨by intro i h; simp at h, by simp, List.nodup_nil, by intro n _ h; exact absurd rfl h⟩

/-- What a search that finds says. -/
theorem found (hF : FOk al F N) {M : Nat → Bool} {i : Nat} {c : List Nat} (hi : i < N) (ha : al i = false) (hf : find F M N [] [i] = some c) :
    IsCyc F M c ∧ (∀ x ∈ c, x < N ∧ al x = false) ∧ ∀ x ∈ c, x = i ∨ Rch F M i x := by
  obtain ⟨h1, h2⟩ := find_some N [] [i] (pathOk0 F M [i]) hf
  have h3 : ∀ x ∈ c, x = i ∨ Rch F M i x := by
    intro x hx
    rcases h2 x hx with h | ⟨n, hn, h⟩
    · simp at h
    · simp at hn
      subst hn
      exact h
  refine ⟨h1, fun x hx => ?_, h3⟩
  rcases h3 x hx with rfl | h
  · exact ⟨hi, ha⟩
  · exact rch_ok hF hi h

theorem not_found (hF : FOk al F N) {M : Nat → Bool} {i : Nat} (hi : i < N) (hf : find F M N [] [i] = none) : ¬ Rch F M i i ∧ ∀ x, Rch F M i x → ¬ Rch F M x x := by
  have h := find_none (fun n hn m hm => (hF n hn m hm).1) N [] [i] (by simp) List.nodup_nil (by simp) (by simpa using hi) hf i (by simp)
  exact ⟨h.2.2.1, h.2.2.2⟩

theorem IsCyc.un {M : Nat → Bool} {c : List Nat} (h : IsCyc F M c) : IsCyc F noMk c := ⟨h.ne, h.edge, h.close, fun _ _ => rfl, h.nodup⟩

/-- The marks grow. -/
theorem mk_mono (al : Nat → Bool) (F : Nat → List Nat) (N : Nat) (i : Nat) : ∀ d x, mk al F N i x = true → mk al F N (i + d) x = true := by
  intro d
  induction d with
  | zero => intro x h; exact h
  | succ d ih =>
    intro x h
    have h1 := ih x h
    rw [show i + (d + 1) = (i + d) + 1 from by omega]
    by_cases ha : al (i + d) = true
    · rw [mk_none (Or.inl ha)]; exact h1
    · have ha : al (i + d) = false := by simpa using ha
      cases hf : find F (mk al F N (i + d)) N [] [i + d] with
      | none => rw [mk_none (Or.inr hf)]; exact h1
      | some c =>
        unfold mk at hf h1 ⊢
        rw [vt_succ]
        unfold vtStep
        rw [if_neg (by rw [ha]; decide)]
        simp only [hf]
        cases c with
        | nil => exact h1
        | cons n c => simp [mark, h1]

/-- Only what contains itself is marked. -/
theorem mk_cyc (hF : FOk al F N) : ∀ k, k ≤ N → ∀ x, mk al F N k x = true → x < N ∧ al x = false ∧ Rch F noMk x x := by
  intro k
  induction k with
  | zero => intro _ x h; cases h
  | succ k ih =>
    intro hk x h
    by_cases ha : al k = true
    · rw [mk_none (Or.inl ha)] at h; exact ih (by omega) x h
    · have ha : al k = false := by simpa using ha
      cases hf : find F (mk al F N k) N [] [k] with
      | none => rw [mk_none (Or.inr hf)] at h; exact ih (by omega) x h
      | some c =>
        obtain ⟨h1, h2, h3⟩ := found hF (by omega) ha hf
        rw [mk_some ha hf h1.ne] at h
        simp at h
        rcases h with rfl | h
        · have := h2 _ (List.head_mem h1.ne)
          exact ⟨this.1, this.2, h1.un.head⟩
        · exact ih (by omega) x h

/-- Which ones are valid. -/
theorem vt_at (al : Nat → Bool) (F : Nat → List Nat) (N : Nat) : ∀ k i, i < k → (vt al F N k).1[i]? = some (al i || (find F (mk al F N i) N [] [i]).isNone) := by
  intro k
  induction k with
  | zero => intro i h; omega
  | succ k ih =>
    intro i hi
    have hl := vt_len al F N k
    rw [vt_succ]
    unfold vtStep
    by_cases hik : i < k
    · split
      · rw [List.getElem?_append_left (by omega)]; exact ih i hik
      · rw [List.getElem?_append_left (by show i < (vt al F N k).1.length; omega)]; exact ih i hik
    · have : i = k := by omega
      subst this
      split
      · rename_i h
        rw [List.getElem?_append_right (by omega), hl]
        simp [h]
      · rename_i h
        rw [List.getElem?_append_right (by show (vt al F N _).1.length ≤ _; omega)]
        simp only [hl]
        simp [h, mk]

theorem valid_at {i : Nat} (hi : i < N) : (vtValid al F N)[i]? = some (al i || (find F (mk al F N i) N [] [i]).isNone) := vt_at al F N N i hi
theorem valid_len : (vtValid al F N).length = N := vt_len al F N N
theorem marked_len : (vtMarked al F N).length = N := by simp [vtMarked]
theorem marked_at {i : Nat} (hi : i < N) : (vtMarked al F N)[i]? = some (!al i && mk al F N N i) := by
  unfold vtMarked mk
  rw [List.getElem?_map, List.getElem?_range hi]
  rfl

theorem Rch.un {M : Nat → Bool} {a b : Nat} (h : Rch F M a b) : Rch F noMk a b := h.mono fun _ _ => rfl

/-- A type that does not contain itself, nor a type that does, is valid. -/
theorem valid_of (hF : FOk al F N) {i : Nat} (hi : i < N) (h : al i = true ∨ ¬ ∃ x, (x = i ∨ Rch F noMk i x) ∧ Rch F noMk x x) : (vtValid al F N)[i]? = some true := by
  rw [valid_at hi]
  cases ha : al i
  · rcases h with h | h
    · rw [ha] at h; cases h
    · cases hf : find F (mk al F N i) N [] [i] with
      | none => rfl
      | some c =>
        obtain ⟨h1, _, h3⟩ := found hF hi ha hf
        have hh := List.head_mem h1.ne
        refine absurd ⟨_, ?_, h1.un.head⟩ h
        rcases h3 _ hh with e | e
        · exact Or.inl e
        · exact Or.inr e.un
  · rfl

/-- As long as all are valid, none is marked. -/
theorem all_valid_mk {k : Nat} (hk : k ≤ N) (h : ∀ i, i < k → (vtValid al F N)[i]? = some true) : mk al F N k = noMk := by
  induction k with
  | zero => rfl
  | succ k ih =>
    have ihk := ih (by omega) fun i hi => h i (by omega)
    have hv := h k (by omega)
    rw [valid_at (by omega)] at hv
    rw [mk_none ?_, ihk]
    cases ha : al k
    · right
      cases hf : find F (mk al F N k) N [] [k] with
      | none => rfl
      | some c => rw [ha, hf] at hv; simp at hv
    · exact Or.inl rfl

/-- The first one that contains itself, or a type that does, is not valid. -/
theorem first_invalid (hF : FOk al F N) {i : Nat} (hi : i < N) (ha : al i = false) (hr : ∃ x, (x = i ∨ Rch F noMk i x) ∧ Rch F noMk x x) (hb : ∀ j, j < i → (vtValid al F N)[j]? = some true) : (vtValid al F N)[i]? = some false := by
  rw [valid_at hi, ha, all_valid_mk (by omega) hb]
  cases hf : find F noMk N [] [i] with
  | some c => rfl
  | none =>
    obtain ⟨h1, h2⟩ := not_found hF hi hf
    obtain ⟨x, rfl | hx, hxx⟩ := hr
    · exact absurd hxx h1
    · exact absurd hxx (h2 x hx)

theorem marked_cyc (hF : FOk al F N) {i : Nat} (h : (vtMarked al F N)[i]? = some true) : al i = false ∧ Rch F noMk i i := by
  have hi : i < N := by have := (List.getElem?_eq_some_iff.1 h).1; rwa [marked_len] at this
  rw [marked_at hi] at h
  simp at h
  have := mk_cyc hF N (Nat.le_refl _) i h.2
  exact ⟨this.2.1, this.2.2⟩

/-- The cycles that are reported. -/
theorem cycles_ok (hF : FOk al F N) : ∀ k, k ≤ N → ∀ c ∈ (vt al F N k).2.2, ∃ c', c = c'.map Int.ofNat ∧ IsCyc F noMk c' ∧ (∀ x ∈ c', x < N ∧ al x = false) ∧ ∃ x ∈ c', mk al F N k x = true := by
  intro k
  induction k with
  | zero => intro _ c h; exact absurd h (by simp [vt])
  | succ k ih =>
    intro hk c hc
    have up : (∃ c', c = c'.map Int.ofNat ∧ IsCyc F noMk c' ∧ (∀ x ∈ c', x < N ∧ al x = false) ∧ ∃ x ∈ c', mk al F N k x = true) → ∃ c', c = c'.map Int.ofNat ∧ IsCyc F noMk c' ∧ (∀ x ∈ c', x < N ∧ al x = false) ∧ ∃ x ∈ c', mk al F N (k + 1) x = true := by
      rintro ⟨c', h1, h2, h3, x, hx, h4⟩
      exact ⟨c', h1, h2, h3, x, hx, mk_mono al F N k 1 x h4⟩
    by_cases ha : al k = true
    · have e : (vt al F N (k + 1)).2.2 = (vt al F N k).2.2 := by rw [vt_succ]; unfold vtStep; rw [if_pos ha]
      rw [e] at hc
      exact up (ih (by omega) c hc)
    · have ha : al k = false := by simpa using ha
      cases hf : find F (mk al F N k) N [] [k] with
      | none =>
        have e : (vt al F N (k + 1)).2.2 = (vt al F N k).2.2 := by
          rw [vt_succ]; unfold vtStep; rw [if_neg (by rw [ha]; decide)]
          unfold mk at hf
          simp only [hf]; rfl
        rw [e] at hc
        exact up (ih (by omega) c hc)
      | some c0 =>
        have e : (vt al F N (k + 1)).2.2 = (vt al F N k).2.2 ++ [c0.map Int.ofNat] := by
          rw [vt_succ]; unfold vtStep; rw [if_neg (by rw [ha]; decide)]
          unfold mk at hf
          simp only [hf]; rfl
        rw [e] at hc
        rcases List.mem_append.1 hc with hc | hc
        · exact up (ih (by omega) c hc)
        · simp at hc
          obtain ⟨h1, h2, h3⟩ := found hF (by omega) ha hf
          refine ⟨c0, by rw [hc], h1.un, h2, c0.head h1.ne, List.head_mem _, ?_⟩
          rw [mk_some ha hf h1.ne]
          simp

/-- All are valid, or some is not; is marked; a cycle is reported. -/
theorem valid_or (hF : FOk al F N) : ∀ k, k ≤ N → ((∀ i, i < k → (vtValid al F N)[i]? = some true) ∧ (vt al F N k).2.2 = []) ∨
    ((∃ i, i < k ∧ (vtValid al F N)[i]? = some false) ∧ (∃ x, x < N ∧ al x = false ∧ mk al F N k x = true) ∧ (vt al F N k).2.2 ≠ []) := by
  intro k
  induction k with
  | zero => intro _; exact Or.inl ⟨by intro i h; omega, rfl⟩
  | succ k ih =>
    intro hk
    have hv := valid_at (al := al) (F := F) (N := N) (i := k) (by omega)
    by_cases ha : al k = true
    · have e : (vt al F N (k + 1)).2.2 = (vt al F N k).2.2 := by rw [vt_succ]; unfold vtStep; rw [if_pos ha]
      rw [e, mk_none (Or.inl ha)]
      rw [ha] at hv
      rcases ih (by omega) with ⟨h1, h2⟩ | ⟨⟨i, hi, h1⟩, h2⟩
      · refine Or.inl ⟨fun i hi => ?_, h2⟩
        rcases (show i < k ∨ i = k by omega) with h | rfl
        · exact h1 i h
        · exact hv
      · exact Or.inr ⟨⟨i, by omega, h1⟩, h2⟩
    · have ha : al k = false := by simpa using ha
      cases hf : find F (mk al F N k) N [] [k] with
      | none =>
        have e : (vt al F N (k + 1)).2.2 = (vt al F N k).2.2 := by
          rw [vt_succ]; unfold vtStep; rw [if_neg (by rw [ha]; decide)]
          unfold mk at hf
          simp only [hf]; rfl
        rw [e, mk_none (Or.inr hf)]
        rw [ha, hf] at hv
        rcases ih (by omega) with ⟨h1, h2⟩ | ⟨⟨i, hi, h1⟩, h2⟩
        · refine Or.inl ⟨fun i hi => ?_, h2⟩
          rcases (show i < k ∨ i = k by omega) with h | rfl
          · exact h1 i h
          · exact hv
        · exact Or.inr ⟨⟨i, by omega, h1⟩, h2⟩
      | some c0 =>
        obtain ⟨h1, h2, h3⟩ := found hF (by omega) ha hf
        have e : (vt al F N (k + 1)).2.2 = (vt al F N k).2.2 ++ [c0.map Int.ofNat] := by
          rw [vt_succ]; unfold vtStep; rw [if_neg (by rw [ha]; decide)]
          unfold mk at hf
          simp only [hf]; rfl
        rw [ha, hf] at hv
        have hh := h2 _ (List.head_mem h1.ne)
        refine Or.inr ⟨⟨k, by omega, hv⟩, ⟨_, hh.1, hh.2, ?_⟩, by rw [e]; simp⟩
        rw [mk_some ha hf h1.ne]
        simp

theorem list_rep {l : List Bool} {b : Bool} (hl : l.length = N) (h : ∀ i, i < N → l[i]? = some b) : l = List.replicate N b := by
  apply List.ext_getElem (by simp [hl])
  intro i h1 h2
  have := h i (by omega)
  rw [List.getElem?_eq_getElem h1] at this
  simp at this
  simp [this]

/-- No type contains itself. -/
theorem vt_fine (hF : FOk al F N) (h : ∀ i, i < N → al i = false → ¬ Rch F noMk i i) : vtValid al F N = List.replicate N true ∧ vtMarked al F N = List.replicate N false ∧ vtCycles al F N = [] := by
  have hv : ∀ i, i < N → (vtValid al F N)[i]? = some true := by
    intro i hi
    refine valid_of hF hi ?_
    cases ha : al i
    · right
      rintro ⟨x, rfl | hx, hxx⟩
      · exact h _ hi ha hxx
      · have := rch_ok hF hi hx
        exact h x this.1 this.2 hxx
    · exact Or.inl rfl
  refine ⟨list_rep valid_len hv, list_rep marked_len fun i hi => ?_, ?_⟩
  · rw [marked_at hi, all_valid_mk (Nat.le_refl _) hv]
    simp
  · rcases valid_or hF N (Nat.le_refl _) with ⟨_, h2⟩ | ⟨⟨i, hi, h1⟩, _⟩
    · exact h2
    · rw [hv i hi] at h1; cases h1

/-- Some type contains itself. -/
theorem vt_bad (hF : FOk al F N) {i : Nat} (hi : i < N) (ha : al i = false) (h : Rch F noMk i i) : false ∈ vtValid al F N ∧ true ∈ vtMarked al F N ∧ vtCycles al F N ≠ [] := by
  rcases valid_or hF N (Nat.le_refl _) with ⟨h1, _⟩ | ⟨⟨j, _, h1⟩, ⟨x, hx, hax, hm⟩, h3⟩
  · have := first_invalid hF hi ha ⟨i, Or.inl rfl, h⟩ fun j hj => h1 j (by omega)
    rw [h1 i hi] at this
    cases this
  · refine ⟨List.mem_of_getElem? h1, ?_, h3⟩
    have := marked_at (al := al) (F := F) hx
    rw [hax, hm] at this
    exact List.mem_of_getElem? this

/-- Where those that are marked, and those that are not valid, contain nothing, no type contains itself. -/
theorem vt_struck (hF : FOk al F N) (F' : Nat → List Nat) (hF' : ∀ n, n < N → F' n = if (vtMarked al F N)[n]? = some true ∨ (vtValid al F N)[n]? = some false then [] else F n) :
    FOk al F' N ∧ ∀ i, i < N → al i = false → ¬ Rch F' noMk i i := by
  have hok : FOk al F' N := by
    intro n hn m hm
    rw [hF' n hn] at hm
    split at hm
    · simp at hm
    · exact hF n hn m hm
  refine ⟨hok, fun i hi ha hr => ?_⟩
  -- all that is on the way is neither marked nor struck
  have key : ∀ a b, Rch F' noMk a b → a < N → al a = false → Rch F (mk al F N N) a b ∧ (vtValid al F N)[a]? ≠ some false := by
    intro a b hab
    induction hab with
    | @one a b _ hb =>
      intro haN haa
      rw [hF' a haN] at hb
      split at hb
      · simp at hb
      · rename_i hn
        have hm : mk al F N N a = false := by
          cases hm : mk al F N N a
          · rfl
          · exfalso
            refine hn (Or.inl ?_)
            rw [marked_at haN, haa, hm]; rfl
        exact ⟨.one hm hb, fun h => hn (Or.inr h)⟩
    | @more a b c _ hb _ ih =>
      intro haN haa
      rw [hF' a haN] at hb
      split at hb
      · simp at hb
      · rename_i hn
        have hm : mk al F N N a = false := by
          cases hm : mk al F N N a
          · rfl
          · exfalso
            refine hn (Or.inl ?_)
            rw [marked_at haN, haa, hm]; rfl
        have hb' := hF a haN b hb
        exact ⟨.more hm hb (ih hb'.1 hb'.2).1, fun h => hn (Or.inr h)⟩
  obtain ⟨h1, h2⟩ := key i i hr hi ha
  have hv := valid_at (al := al) (F := F) (N := N) hi
  rw [ha] at hv
  cases hf : find F (mk al F N i) N [] [i] with
  | some c => rw [hf] at hv; exact h2 hv
  | none =>
    obtain ⟨h3, _⟩ := not_found hF hi hf
    refine h3 (h1.mono fun x hx => ?_)
    cases hm : mk al F N i x
    · rfl
    · have := mk_mono al F N i (N - i) x hm
      rw [show i + (N - i) = N from by omega, hx] at this
      cases this
end

end Go.Proofs.Ytnaedpfaeioolaa
