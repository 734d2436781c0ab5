/- Plain facts on spec.Fit, and stores into a list of declarations of the call's own. -/
import Derived.Test.YtnaedpfaeioolaaVf
import Derived.Laws.OwnMore
import Derived.OneCell
namespace Go.Proofs.Ytnaedpfaeioolaa
open Go.RowKit
set_option linter.unusedVariables false

theorem flat4_set : ∀ (qs : List V4) (k : Nat) (q : V4) (x : V3), qs[k]? = some q → (((flat4 qs).set (k * 4 + 1) x.1).set (k * 4 + 2) x.2.1).set (k * 4 + 3) x.2.2 = flat4 (qs.set k (q.1, x))
  | [], k, q, x, h => by simp at h
  | p :: qs, 0, q, x, h => by simp at h; subst h; simp [flat4]
  | p :: qs, k + 1, q, x, h => by
    have ih := flat4_set qs k q x (by simpa using h)
    rw [show (k + 1) * 4 + 1 = (k * 4 + 1) + 1 + 1 + 1 + 1 from by omega, show (k + 1) * 4 + 2 = (k * 4 + 2) + 1 + 1 + 1 + 1 from by omega, show (k + 1) * 4 + 3 = (k * 4 + 3) + 1 + 1 + 1 + 1 from by omega]
    simp only [flat4, List.set_cons_succ]
    rw [ih]

/-- One declaration's cells in a list of the call's own. -/
theorem Kids4.cells {w : World} {B : Nat} {e : TypeId} {g n cap : Nat} {qs : List V4} {ds : List D} (h : Kids4 w B e (.slice (some ⟨g, 0, none⟩) n cap) qs ds) {k : Nat} (hk : k < ds.length) (hn : ds.length = n) :
    ∃ (kd md : Int) (x : Option Addr) (y : Nat × Nat), w.cell? ⟨g, k * 4, none⟩ = some (.bool (alOf ds k)) ∧ w.cell? ⟨g, k * 4 + 1, none⟩ = some (.int .i64 kd) ∧ w.cell? ⟨g, k * 4 + 2, none⟩ = some (.int .i64 md) ∧
      w.cell? ⟨g, k * 4 + 3, none⟩ = some (.slice x y.1 y.2) ∧ TV w (fun b => b ≠ g) (.agg #[.int .i64 kd, .int .i64 md, .slice x y.1 y.2]) (ofOf ds k) ∧ ∀ j, w.frozen? ⟨g, j, none⟩ = false := by
  subst hn
  have hkq : k < qs.length := by rw [h.kid.1]; exact hk
  have hq : qs[k]? = some qs[k] := List.getElem?_eq_getElem hkq
  obtain ⟨h0, h1, h2, h3⟩ := flat4_get qs k _ hq
  obtain ⟨e0, ht⟩ := h.kid.2 k _ _ hq (List.getElem?_eq_getElem hk)
  obtain ⟨kd, md, x, c, ts, ps, e1, e2, _⟩ := ht.form3
  have c0 := h.own.cellAt (k * 4) (by omega)
  have c1 := h.own.cellAt (k * 4 + 1) (by omega)
  have c2 := h.own.cellAt (k * 4 + 2) (by omega)
  have c3 := h.own.cellAt (k * 4 + 3) (by omega)
  rw [h0, e0] at c0
  rw [h1, e1] at c1
  rw [h2, e1] at c2
  rw [h3, e1] at c3
  rw [e1] at ht
  refine ⟨kd, md, x, (ts.length, c), ?_, c1, c2, c3, ?_, fun j => h.own.frozenAt j⟩
  · unfold alOf; rw [getD_of hk]; exact c0
  · unfold ofOf; rw [getD_of hk]
    exact ht.mono fun b hb _ e3 => hb (by simp [Value.ownBlock, e3])

/-- A tree is stored in the place of one of them. -/
theorem Kids4.store {w : World} {B : Nat} {e : TypeId} {g n cap : Nat} {qs : List V4} {ds : List D} (h : Kids4 w B e (.slice (some ⟨g, 0, none⟩) n cap) qs ds) {k : Nat} (hk : k < ds.length) (hn : ds.length = n) {x : V3} {t : T}
    (ht : TV w (fun b => b ≠ g) (agg3 x) t) :
    ∃ qs', Kids4 (((w.setCell ⟨g, k * 4 + 1, none⟩ x.1).setCell ⟨g, k * 4 + 2, none⟩ x.2.1).setCell ⟨g, k * 4 + 3, none⟩ x.2.2) B e (.slice (some ⟨g, 0, none⟩) n cap) qs' (ds.set k ⟨alOf ds k, t⟩) := by
  subst hn
  have hkq : k < qs.length := by rw [h.kid.1]; exact hk
  have hq : qs[k]? = some qs[k] := List.getElem?_eq_getElem hkq
  obtain ⟨e0, _⟩ := h.kid.2 k _ _ hq (List.getElem?_eq_getElem hk)
  refine ⟨qs.set k (qs[k].1, x), ?_, ?_⟩
  · have s1 := (h.own.stored (k * 4 + 1) x.1).1
    have s2 := (s1.stored (k * 4 + 2) x.2.1).1
    have s3 := (s2.stored (k * 4 + 3) x.2.2).1
    rw [flat4_set qs k _ x hq] at s3
    rw [List.length_set]
    exact s3
  · have hkeep : ∀ b, b ≠ g → (((w.setCell ⟨g, k * 4 + 1, none⟩ x.1).setCell ⟨g, k * 4 + 2, none⟩ x.2.1).setCell ⟨g, k * 4 + 3, none⟩ x.2.2).heap[b]? = w.heap[b]? := fun b hb => by
      rw [Below.heap_setCell _ _ _ _ hb, Below.heap_setCell _ _ _ _ hb, Below.heap_setCell _ _ _ _ hb]
    have k1 := h.kid.keep (w' := ((w.setCell ⟨g, k * 4 + 1, none⟩ x.1).setCell ⟨g, k * 4 + 2, none⟩ x.2.1).setCell ⟨g, k * 4 + 3, none⟩ x.2.2) fun b hb _ => hkeep b fun e3 => hb (by simp [Value.ownBlock, e3])
    refine k1.set k ?_ ?_
    · show qs[k].1 = _
      rw [e0]; unfold alOf; rw [getD_of hk]
    · exact (ht.keep fun b hb _ => hkeep b hb).mono fun b hb _ e3 => hb (by simp [Value.ownBlock] at e3; exact e3.symm)

theorem Kids4.len {w : World} {B : Nat} {e : TypeId} {sv : Value} {qs : List V4} {ds : List D} (h : Kids4 w B e sv qs ds) (hp : 0 < ds.length) : ∃ g cap, sv = .slice (some ⟨g, 0, none⟩) ds.length cap := by
  rcases h.own.2 with ⟨_, hx⟩ | ⟨g, cap, cur, rfl, _⟩
  · have := h.own.1
    rw [hx] at this
    simp at this
    omega
  · exact ⟨g, cap, rfl⟩

/-- How many of them are aliases. -/
def cntA (xs : List D) : Nat := xs.countP (·.alias)
theorem cntA_le (xs : List D) : cntA xs ≤ xs.length := List.countP_le_length
theorem cntA_snoc (xs : List D) (d : D) : cntA (xs ++ [d]) = cntA xs + if d.alias = true then 1 else 0 := by
  unfold cntA
  rw [List.countP_append, List.countP_singleton]

/-- At most three of them stay aliases. -/
def fit1 (xs : List D) : List D := xs.mapIdx fun i d => ⟨d.alias && decide (cntA (xs.take (i + 1)) ≤ 3), d.of⟩
theorem fit1_len (xs : List D) : (fit1 xs).length = xs.length := by simp [fit1]
theorem fit1_take (xs : List D) {k : Nat} (hk : k < xs.length) : (fit1 xs).take (k + 1) = (fit1 xs).take k ++ [⟨xs[k].alias && decide (cntA (xs.take (k + 1)) ≤ 3), xs[k].of⟩] := by
  have hk' : k < (fit1 xs).length := by rw [fit1_len]; exact hk
  rw [List.take_succ_eq_append_getElem hk']
  congr 2
  simp [fit1]

/-- The first k of them are made fit. -/
def fit2 (xs : List D) (k : Nat) : List D := xs.mapIdx fun i d => if i < k then ⟨d.alias, fitT (alOf xs) xs.length i 2 d.of⟩ else d
theorem fit2_len (xs : List D) (k : Nat) : (fit2 xs k).length = xs.length := by simp [fit2]
theorem fit2_zero (xs : List D) : fit2 xs 0 = xs := by
  apply List.ext_getElem (by simp [fit2])
  intro i h1 h2
  simp [fit2]
theorem fit2_al (xs : List D) (k : Nat) : alOf (fit2 xs k) = alOf xs := by
  funext n
  unfold alOf fit2
  simp only [List.getD_eq_getElem?_getD, List.getElem?_mapIdx]
  cases h : xs[n]? with
  | none => rfl
  | some d => simp; split <;> rfl
theorem fit2_of (xs : List D) {k : Nat} (hk : k < xs.length) : ofOf (fit2 xs k) k = ofOf xs k := by
  unfold ofOf fit2
  simp [List.getD_eq_getElem?_getD, hk]
theorem fit2_succ (xs : List D) {k : Nat} (hk : k < xs.length) : fit2 xs (k + 1) = (fit2 xs k).set k ⟨alOf (fit2 xs k) k, fitT (alOf (fit2 xs k)) (fit2 xs k).length k 2 (ofOf (fit2 xs k) k)⟩ := by
  rw [fit2_al, fit2_len, fit2_of xs hk]
  apply List.ext_getElem (by simp [fit2])
  intro i h1 h2
  rw [List.getElem_set]
  by_cases hi : k = i
  · subst hi
    simp [fit2, alOf, ofOf, List.getD_eq_getElem?_getD, hk]
  · simp only [if_neg hi]
    simp only [fit2, List.getElem_mapIdx]
    by_cases h3 : i < k
    · rw [if_pos (by omega), if_pos h3]
    · rw [if_neg (by omega), if_neg h3]

def fitD (ds : List D) : List D := fit2 (fit1 (ds.take 8)) (ds.take 8).length

end Go.Proofs.Ytnaedpfaeioolaa
