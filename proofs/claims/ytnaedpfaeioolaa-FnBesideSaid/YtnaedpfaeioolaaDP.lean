/- Plain facts on a list of numbers read as 'what stands on the right of each declaration': its iterates, its cycles, and what spec.DirectCycles makes of it. No program in sight. -/
namespace Go.Proofs.Ytnaedpfaeioolaa

/-- One step: a number below 0 stays; another leads to what stands on its right. -/
def stp (r : List Int) (x : Int) : Int := if x < 0 then x else r[x.toNat]?.getD (-1)
def it (r : List Int) : Nat → Int → Int
  | 0, x => x
  | k + 1, x => stp r (it r k x)

/-- The numbers are declarations or -1. -/
def Fine (r : List Int) : Prop := ∀ (i : Nat) x, r[i]? = some x → -1 ≤ x ∧ x < r.length

theorem it_add (r : List Int) (a b : Nat) (x : Int) : it r (a + b) x = it r a (it r b x) := by
  induction a with
  | zero => simp [it]
  | succ a ih => rw [show a + 1 + b = (a + b) + 1 from by omega]; simp [it, ih]

theorem it_succ' (r : List Int) (k : Nat) (x : Int) : it r (k + 1) x = it r k (stp r x) := by
  rw [it_add r k 1]; rfl

theorem stp_bd {r : List Int} (h : Fine r) {x : Int} (h1 : -1 ≤ x) (h2 : x < r.length) : -1 ≤ stp r x ∧ stp r x < r.length := by
  unfold stp
  split
  · exact ⟨h1, h2⟩
  · have hk : x.toNat < r.length := by omega
    rw [List.getElem?_eq_getElem hk]
    exact h x.toNat _ (List.getElem?_eq_getElem hk)

theorem it_bd {r : List Int} (h : Fine r) {x : Int} (h1 : -1 ≤ x) (h2 : x < r.length) (k : Nat) : -1 ≤ it r k x ∧ it r k x < r.length := by
  induction k with
  | zero => exact ⟨h1, h2⟩
  | succ k ih => exact stp_bd h ih.1 ih.2

theorem it_neg {r : List Int} {x : Int} (h : x < 0) (k : Nat) : it r k x = x := by
  induction k with
  | zero => rfl
  | succ k ih => simp only [it]; rw [ih]; unfold stp; rw [if_pos h]

theorem nodup_le : ∀ (n : Nat) (l : List Nat), l.Nodup → (∀ x ∈ l, x < n) → l.length ≤ n
  | 0, l, _, h => by
    cases l with
    | nil => simp
    | cons a l => have := h a (by simp); omega
  | n + 1, l, hd, h => by
    have h1 : (l.erase n).Nodup := hd.erase n
    have h2 : ∀ x ∈ l.erase n, x < n := by
      intro x hx
      have h3 := h x (List.mem_of_mem_erase hx)
      have : x ≠ n := by
        intro e
        subst e
        rw [hd.mem_erase_iff] at hx
        exact hx.1 rfl
      omega
    have h3 := nodup_le n _ h1 h2
    by_cases hm : n ∈ l
    · have := List.length_erase_of_mem hm; omega
    · rw [List.erase_of_not_mem hm] at h3; omega

theorem pigeon (n : Nat) (f : Nat → Nat) (h : ∀ i, i ≤ n → f i < n) : ∃ a b, a < b ∧ b ≤ n ∧ f a = f b := by
  refine Classical.byContradiction fun hno => ?_
  have hd : ((List.range (n + 1)).map f).Nodup := by
    rw [List.Nodup, List.pairwise_map]
    refine List.Pairwise.imp_of_mem ?_ List.pairwise_lt_range
    intro a b ha hb hlt e
    simp at ha hb
    exact hno ⟨a, b, hlt, by omega, e⟩
  have := nodup_le n _ hd (by
    intro x hx
    obtain ⟨i, hi, rfl⟩ := List.mem_map.1 hx
    simp at hi
    exact h i (by omega))
  simp at this
  omega

/-- What is still a declaration after as many steps as there are declarations lies on a cycle. -/
theorem on_cycle {r : List Int} (h : Fine r) {x : Int} (h1 : -1 ≤ x) (h2 : x < r.length) (h0 : 0 ≤ it r r.length x) :
    ∃ p, 0 < p ∧ p ≤ r.length ∧ it r p (it r r.length x) = it r r.length x := by
  have hpos : ∀ k, k ≤ r.length → 0 ≤ it r k x := by
    intro k hk
    refine Int.not_lt.1 fun hlt => ?_
    have : it r r.length x = it r (r.length - k) (it r k x) := by rw [← it_add]; congr 1; omega
    rw [it_neg hlt] at this
    omega
  obtain ⟨a, b, hab, hb, he⟩ := pigeon r.length (fun k => (it r k x).toNat) (fun k hk => by have := it_bd h h1 h2 k; have := hpos k hk; show (it r k x).toNat < r.length; omega)
  have e1 : it r a x = it r b x := by have := hpos a (by omega); have := hpos b hb; have he' : (it r a x).toNat = (it r b x).toNat := he; omega
  refine ⟨b - a, by omega, by omega, ?_⟩
  have e2 : it r r.length x = it r (r.length - a) (it r a x) := by rw [← it_add]; congr 1; omega
  have e3 : it r (b - a) (it r r.length x) = it r (r.length - a) (it r b x) := by
    rw [← it_add, ← it_add]; congr 1; omega
  rw [e3, ← e1, ← e2]

/-- The least number of steps, from 1 on, that lead back. -/
def perOf (r : List Int) (x : Int) : Nat := ((List.range r.length).find? fun p => it r (p + 1) x == x).getD 0 + 1

/-- x lies on a cycle. -/
def OnC (r : List Int) (x : Int) : Prop := 0 ≤ x ∧ x < r.length ∧ ∃ p, 0 < p ∧ p ≤ r.length ∧ it r p x = x

theorem find_range (n : Nat) (q : Nat → Bool) (p : Nat) (hp : p < n) (hq : q p = true) :
    ∃ m, (List.range n).find? q = some m ∧ q m = true ∧ m < n ∧ m ≤ p ∧ ∀ j, j < m → q j = false := by
  cases h : (List.range n).find? q with
  | none =>
    rw [List.find?_eq_none] at h
    exact absurd hq (h p (by simpa using hp))
  | some m =>
    have h1 := List.find?_some h
    have h2 := List.mem_of_find?_eq_some h
    simp at h2
    have h3 : ∀ j, j < m → q j = false := by
      intro j hj
      rw [List.find?_range_eq_some] at h
      have := h.2.2 j hj
      simpa using this
    refine ⟨m, rfl, h1, h2, ?_, h3⟩
    refine Nat.not_lt.1 fun hlt => ?_
    rw [h3 p hlt] at hq
    cases hq

theorem per_spec {r : List Int} {x : Int} (h : OnC r x) : 0 < perOf r x ∧ perOf r x ≤ r.length ∧ it r (perOf r x) x = x ∧ ∀ j, 0 < j → j < perOf r x → it r j x ≠ x := by
  obtain ⟨_, _, p, hp0, hp, he⟩ := h
  obtain ⟨m, h1, h2, h3, h4, h5⟩ := find_range r.length (fun p => it r (p + 1) x == x) (p - 1) (by omega) (by
    rw [show p - 1 + 1 = p from by omega]; simpa using he)
  unfold perOf
  rw [h1]
  refine ⟨by simp, by simp; omega, by simpa using h2, ?_⟩
  intro j hj hjm
  simp at hjm
  have := h5 (j - 1) (by omega)
  rw [show j - 1 + 1 = j from by omega] at this
  simpa using this

theorem it_pos {r : List Int} {x : Int} (h : OnC r x) (k : Nat) : 0 ≤ it r k x := by
  obtain ⟨h0, h1, p, hp0, hp, he⟩ := h
  refine Int.not_lt.1 fun hlt => ?_
  have hm : ∀ m, it r (m * p) x = x := by
    intro m
    induction m with
    | zero => simp [it]
    | succ m ih => rw [Nat.add_mul, Nat.one_mul, it_add, he, ih]
  have h2 : k ≤ k * p := by calc k = k * 1 := by omega
      _ ≤ k * p := Nat.mul_le_mul_left k hp0
  have h3 : it r (k * p) x = it r (k * p - k) (it r k x) := by rw [← it_add]; congr 1; omega
  rw [hm, it_neg hlt] at h3
  omega

theorem onC_it {r : List Int} (hf : Fine r) {x : Int} (h : OnC r x) (k : Nat) : OnC r (it r k x) := by
  have h0 := it_pos h k
  obtain ⟨h1, h2, p, hp0, hp, he⟩ := h
  refine ⟨h0, (it_bd hf (by omega) h2 k).2, p, hp0, hp, ?_⟩
  rw [← it_add, Nat.add_comm, it_add, he]

/-- The cycle from x on. -/
def cyc (r : List Int) (x : Int) : List Int := (List.range (perOf r x)).map fun j => it r j x
/-- The least of the numbers on the cycle of x. -/
def firstOf (r : List Int) (x : Int) : Int := ((List.range (perOf r x)).map fun j => it r j x).foldl min x
def specStep (r : List Int) (out : List (List Int)) (i : Nat) : List (List Int) :=
  if it r r.length i < 0 then out else
  if out.any (fun c => c.headD 0 == firstOf r (it r r.length i)) then out else out ++ [cyc r (firstOf r (it r r.length i))]
def specDC (r : List Int) : List (List Int) := (List.range r.length).foldl (specStep r) []

/-- The least of the first k numbers on. -/
def minTo (r : List Int) (x : Int) (k : Nat) : Int := ((List.range k).map fun j => it r j x).foldl min x

theorem minTo_one (r : List Int) (x : Int) : minTo r x 1 = x := by
  have : (List.range 1).map (fun j => it r j x) = [x] := rfl
  simp only [minTo, this, List.foldl_cons, List.foldl_nil]
  omega

theorem minTo_succ (r : List Int) (x : Int) (k : Nat) : minTo r x (k + 1) = min (minTo r x k) (it r k x) := by
  simp [minTo, List.range_succ]

theorem minTo_is (r : List Int) (x : Int) : ∀ k, ∃ m, m ≤ k ∧ minTo r x k = it r m x ∧ (m = 0 ∨ m < k)
  | 0 => ⟨0, Nat.le_refl _, rfl, Or.inl rfl⟩
  | k + 1 => by
    obtain ⟨m, hm, he, h0⟩ := minTo_is r x k
    rw [minTo_succ]
    by_cases h : minTo r x k ≤ it r k x
    · exact ⟨m, by omega, by rw [← he]; omega, by omega⟩
    · exact ⟨k, by omega, by omega, by omega⟩

theorem minTo_le (r : List Int) (x : Int) : ∀ k j, j < k → minTo r x k ≤ it r j x
  | 0, j, h => by omega
  | k + 1, j, h => by
    rw [minTo_succ]
    rcases Nat.lt_succ_iff_lt_or_eq.1 h with h | h
    · have := minTo_le r x k j h; omega
    · subst h; omega

theorem firstOf_eq (r : List Int) (x : Int) : firstOf r x = minTo r x (perOf r x) := rfl

theorem onC_first {r : List Int} (hf : Fine r) {x : Int} (h : OnC r x) : OnC r (firstOf r x) := by
  obtain ⟨m, _, he, _⟩ := minTo_is r x (perOf r x)
  rw [firstOf_eq, he]
  exact onC_it hf h m

theorem specDC_take (r : List Int) (k : Nat) : (List.range (k + 1)).foldl (specStep r) [] = specStep r ((List.range k).foldl (specStep r) []) k := by
  rw [List.range_succ, List.foldl_append]; rfl

theorem specStep_length (r : List Int) (out : List (List Int)) (k : Nat) : (specStep r out k).length ≤ out.length + 1 := by
  unfold specStep
  split
  · omega
  · split
    · omega
    · simp

theorem spec_length (r : List Int) (k : Nat) : ((List.range k).foldl (specStep r) []).length ≤ k := by
  induction k with
  | zero => simp
  | succ k ih =>
    rw [specDC_take]
    have := specStep_length r ((List.range k).foldl (specStep r) []) k
    omega

theorem cyc_ne (r : List Int) (x : Int) : cyc r x ≠ [] := by
  have : (cyc r x).length = perOf r x := by simp [cyc]
  intro h
  rw [h] at this
  simp [perOf] at this

theorem specStep_mem (r : List Int) (out : List (List Int)) (k : Nat) : ∀ c ∈ specStep r out k, c ∈ out ∨ c = cyc r (firstOf r (it r r.length k)) := by
  unfold specStep
  split
  · exact fun c h => Or.inl h
  · split
    · exact fun c h => Or.inl h
    · intro c hc
      rw [List.mem_append] at hc
      rcases hc with hc | hc
      · exact Or.inl hc
      · right; simpa using hc

theorem spec_ne (r : List Int) (k : Nat) : ∀ c ∈ (List.range k).foldl (specStep r) [], c ≠ [] := by
  induction k with
  | zero => simp
  | succ k ih =>
    rw [specDC_take]
    intro c hc
    rcases specStep_mem r _ k c hc with h | h
    · exact ih c h
    · rw [h]; exact cyc_ne _ _

theorem cyc_take (r : List Int) (x : Int) (j : Nat) : ((List.range (j + 1)).map fun j => it r j x) = ((List.range j).map fun j => it r j x) ++ [it r j x] := by
  simp [List.range_succ]

end Go.Proofs.Ytnaedpfaeioolaa
