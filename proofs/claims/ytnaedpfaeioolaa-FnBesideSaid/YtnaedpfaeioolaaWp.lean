/- The search for types that contain themselves, as a plain function over the names that each declaration contains. No program in sight. -/
namespace Go.Proofs.Ytnaedpfaeioolaa

/-- The first cycle met from the names l on, behind 'path'; M: the names that are marked and contain nothing; g: how deep the search may go. -/
def find (G : Nat → List Nat) (M : Nat → Bool) : Nat → List Nat → List Nat → Option (List Nat)
  | _, _, [] => none
  | g, path, n :: rest =>
    if n ∈ path then some (path.drop (path.idxOf n))
    else if M n = true then find G M g path rest
    else match g with
      | 0 => find G M 0 path rest
      | g + 1 => match find G M g (path ++ [n]) (G n) with
        | some c => some c
        | none => find G M (g + 1) path rest
termination_by g _ l => (g, l.length)

variable {G : Nat → List Nat} {M : Nat → Bool} {g : Nat} {path : List Nat}

theorem find_nil (G : Nat → List Nat) (M : Nat → Bool) (g : Nat) (path : List Nat) : find G M g path [] = none := by rw [find.eq_def]
theorem find_in {n : Nat} (rest : List Nat) (h : n ∈ path) : find G M g path (n :: rest) = some (path.drop (path.idxOf n)) := by rw [find.eq_def]; simp [h]
theorem find_marked {n : Nat} (rest : List Nat) (h : n ∉ path) (hm : M n = true) : find G M g path (n :: rest) = find G M g path rest := by rw [find.eq_def]; simp [h, hm]
theorem find_go {n : Nat} (rest : List Nat) (h : n ∉ path) (hm : M n = false) : find G M (g + 1) path (n :: rest) = (find G M g (path ++ [n]) (G n)).or (find G M (g + 1) path rest) := by
  rw [find.eq_def]; simp [h, hm]
  cases find G M g (path ++ [n]) (G n) <;> rfl
theorem find_zero {n : Nat} (rest : List Nat) (h : n ∉ path) : find G M 0 path (n :: rest) = find G M 0 path rest := by
  rw [find.eq_def]; simp [h]

theorem find_append (a b : List Nat) : find G M g path (a ++ b) = (find G M g path a).or (find G M g path b) := by
  induction a with
  | nil => rw [find_nil]; rfl
  | cons n a ih =>
    rw [List.cons_append]
    by_cases h : n ∈ path
    · rw [find_in _ h, find_in _ h]; rfl
    · by_cases hm : M n = true
      · rw [find_marked _ h hm, find_marked _ h hm, ih]
      · have hm : M n = false := by simpa using hm
        cases g with
        | zero => rw [find_zero _ h, find_zero _ h, ih]
        | succ g => rw [find_go _ h hm, find_go _ h hm, ih, Option.or_assoc]

/-- The marks behind a search. -/
def mark (M : Nat → Bool) : Option (List Nat) → Nat → Bool
  | some (n :: _) => fun x => decide (x = n) || M x
  | _ => M
def addc (cyc : List (List Int)) : Option (List Nat) → List (List Int)
  | some c => cyc ++ [c.map Int.ofNat]
  | none => cyc

theorem drop_idx {path : List Nat} {n : Nat} (h : n ∈ path) : path.drop (path.idxOf n) = n :: path.drop (path.idxOf n + 1) := by
  have hl := List.idxOf_lt_length_of_mem h
  rw [List.drop_eq_getElem_cons hl]
  congr 1
  exact List.getElem_idxOf hl

/-- What the check of one declaration adds: whether it is valid, the marks, the cycles. -/
def vtStep (al : Nat → Bool) (G : Nat → List Nat) (N : Nat) (s : List Bool × (Nat → Bool) × List (List Int)) (i : Nat) : List Bool × (Nat → Bool) × List (List Int) :=
  if al i = true then (s.1 ++ [true], s.2) else (s.1 ++ [(find G s.2.1 N [] [i]).isNone], mark s.2.1 (find G s.2.1 N [] [i]), addc s.2.2 (find G s.2.1 N [] [i]))
def vt (al : Nat → Bool) (G : Nat → List Nat) (N k : Nat) : List Bool × (Nat → Bool) × List (List Int) := (List.range k).foldl (vtStep al G N) ([], fun _ => false, [])

theorem vt_succ (al : Nat → Bool) (G : Nat → List Nat) (N k : Nat) : vt al G N (k + 1) = vtStep al G N (vt al G N k) k := by
  unfold vt
  rw [List.range_succ, List.foldl_append]; rfl
theorem vt_len (al : Nat → Bool) (G : Nat → List Nat) (N k : Nat) : (vt al G N k).1.length = k := by
  induction k with
  | zero => rfl
  | succ k ih => rw [vt_succ]; unfold vtStep; split <;> simp [ih]
theorem vt_cyc (al : Nat → Bool) (G : Nat → List Nat) (N k : Nat) : (vt al G N k).2.2.length ≤ k := by
  induction k with
  | zero => exact Nat.le_refl _
  | succ k ih =>
    rw [vt_succ]
    unfold vtStep
    split
    · exact Nat.le_succ_of_le ih
    · cases h : find G (vt al G N k).2.1 N [] [k] <;> simp [addc] <;> omega

/-- The three answers. -/
def vtValid (al : Nat → Bool) (G : Nat → List Nat) (N : Nat) : List Bool := (vt al G N N).1
def vtMarked (al : Nat → Bool) (G : Nat → List Nat) (N : Nat) : List Bool := (List.range N).map fun i => !al i && (vt al G N N).2.1 i
def vtCycles (al : Nat → Bool) (G : Nat → List Nat) (N : Nat) : List (List Int) := (vt al G N N).2.2

end Go.Proofs.Ytnaedpfaeioolaa
