/- The check of cycles of names as a plain function: one name's walk, and what it leaves. No program in sight. -/
import Derived.Test.YtnaedpfaeioolaaDP
namespace Go.Proofs.Ytnaedpfaeioolaa

/-- The walk from name t on, 'path' being behind it; bl: the names that are done. -/
def dcWalk (r : List Int) (bl : Nat → Bool) : Nat → Nat → List Nat → List Nat × Option Nat
  | 0, _, path => (path, none)
  | k + 1, t, path =>
    if bl t then (path, none) else
    if t ∈ path then (path, some (path.idxOf t)) else
    if r.getD t (-1) < 0 then (path ++ [t], none) else dcWalk r bl k (r.getD t (-1)).toNat (path ++ [t])

theorem dcWalk_black {r : List Int} {bl : Nat → Bool} {k t : Nat} {path : List Nat} (h : bl t = true) : dcWalk r bl (k + 1) t path = (path, none) := by
  simp [dcWalk, h]
theorem dcWalk_found {r : List Int} {bl : Nat → Bool} {k t : Nat} {path : List Nat} (h : bl t = false) (hm : t ∈ path) : dcWalk r bl (k + 1) t path = (path, some (path.idxOf t)) := by
  simp [dcWalk, h, hm]
theorem dcWalk_end {r : List Int} {bl : Nat → Bool} {k t : Nat} {path : List Nat} (h : bl t = false) (hm : t ∉ path) (hr : r.getD t (-1) < 0) : dcWalk r bl (k + 1) t path = (path ++ [t], none) := by
  rw [dcWalk, h, if_neg (by simp), if_neg hm, if_pos hr]
theorem dcWalk_on {r : List Int} {bl : Nat → Bool} {k t : Nat} {path : List Nat} (h : bl t = false) (hm : t ∉ path) (hr : ¬ r.getD t (-1) < 0) : dcWalk r bl (k + 1) t path = dcWalk r bl k (r.getD t (-1)).toNat (path ++ [t]) := by
  rw [dcWalk, h, if_neg (by simp), if_neg hm, if_neg hr]

/-- A cycle from its m-th place on. -/
def rotAt (js : List Nat) (m i : Nat) : Int := (js.getD ((m + i) % js.length) 0 : Nat)
def rot (js : List Nat) (m : Nat) : List Int := (List.range js.length).map (rotAt js m)
/-- The place of a least number. -/
def MinAt (js : List Nat) (m : Nat) : Prop := m < js.length ∧ ∀ j, j < js.length → js.getD m 0 ≤ js.getD j 0
def minIx (js : List Nat) : Nat := ((List.range js.length).find? fun m => (List.range js.length).all fun j => decide (js.getD m 0 ≤ js.getD j 0)).getD 0

theorem minAt_eq {js : List Nat} {m : Nat} (hd : js.Nodup) (h : MinAt js m) : minIx js = m := by
  obtain ⟨hm, hle⟩ := h
  obtain ⟨q, h1, h2, h3, h4, h5⟩ := find_range js.length (fun m => (List.range js.length).all fun j => decide (js.getD m 0 ≤ js.getD j 0)) m hm (by
    rw [List.all_eq_true]
    intro j hj
    simpa using hle j (List.mem_range.1 hj))
  unfold minIx
  rw [h1]
  simp only [Option.getD_some]
  rw [List.all_eq_true] at h2
  have h6 : js.getD q 0 ≤ js.getD m 0 := by simpa using h2 m (List.mem_range.2 hm)
  have h7 := hle q h3
  have h8 : js[q] = js[m] := by
    simp [List.getD_eq_getElem?_getD, hm, h3] at h6 h7
    omega
  rw [List.Nodup, List.pairwise_iff_getElem] at hd
  rcases Nat.lt_trichotomy q m with h9 | h9 | h9
  · exact absurd h8 (hd q m h3 hm h9)
  · exact h9
  · exact absurd h8.symm (hd m q hm h3 h9)

/-- What the walk of one name leaves: the names that are done, those that are marked, the cycles. -/
def dcStep (r : List Int) (s : (Nat → Bool) × (Nat → Bool) × List (List Int)) (i : Nat) : (Nat → Bool) × (Nat → Bool) × List (List Int) :=
  (fun j => s.1 j || decide (j ∈ (dcWalk r s.1 (r.length + 1) i []).1),
   match (dcWalk r s.1 (r.length + 1) i []).2 with
    | none => s.2
    | some p => (fun j => s.2.1 j || decide ((dcWalk r s.1 (r.length + 1) i []).1[p]? = some j),
        s.2.2 ++ [rot ((dcWalk r s.1 (r.length + 1) i []).1.drop p) (minIx ((dcWalk r s.1 (r.length + 1) i []).1.drop p))]))

def dcAll (r : List Int) (k : Nat) : (Nat → Bool) × (Nat → Bool) × List (List Int) := (List.range k).foldl (dcStep r) (fun _ => false, fun _ => false, [])

theorem dcAll_succ (r : List Int) (k : Nat) : dcAll r (k + 1) = dcStep r (dcAll r k) k := by
  unfold dcAll
  rw [List.range_succ, List.foldl_append]; rfl

end Go.Proofs.Ytnaedpfaeioolaa
