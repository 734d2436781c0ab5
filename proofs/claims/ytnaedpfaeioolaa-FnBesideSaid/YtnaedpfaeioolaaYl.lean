/- What the statements share that speak of what a type contains: the lists that spec.Holds returns are the plain graph. -/
import Derived.Test.YtnaedpfaeioolaaYr
import Derived.Test.YtnaedpfaeioolaaXv
import Derived.Test.YtnaedpfaeioolaaXp
namespace Go.Proofs.Ytnaedpfaeioolaa
open Go.RowKit
set_option linter.unusedVariables false

theorem flatF_ok {ds : List D} (hds : DOk ds) : ∀ (f : Nat) (t : T), Ok ds.length t → ∀ x ∈ flatF ds f t, x < ds.length ∧ alOf ds x = false := by
  intro f
  induction f with
  | zero =>
    intro t h
    induction h with
    | mk k n es h0 h6 h3 hn ha he ih =>
      intro x hx
      rw [flatF.eq_def] at hx
      simp only [] at hx
      split at hx
      · rename_i h1
        split at hx
        · simp at hx
        · rename_i h2
          simp at hx
          subst hx
          have := hn h1
          exact ⟨by omega, by simpa using h2⟩
      · split at hx
        · obtain ⟨e, he1, he2⟩ := List.mem_flatMap.1 hx
          exact ih e he1 x he2
        · simp at hx
  | succ f ihf =>
    intro t h
    induction h with
    | mk k n es h0 h6 h3 hn ha he ih =>
      intro x hx
      rw [flatF.eq_def] at hx
      simp only [] at hx
      split at hx
      · rename_i h1
        have hnn := hn h1
        split at hx
        · exact ihf _ (hds.of (by omega)) x hx
        · rename_i h2
          simp at hx
          subst hx
          exact ⟨by omega, by simpa using h2⟩
      · split at hx
        · obtain ⟨e, he1, he2⟩ := List.mem_flatMap.1 hx
          exact ih e he1 x he2
        · simp at hx

theorem GG_ok {ds : List D} (hds : DOk ds) : FOk (alOf ds) (GG ds) ds.length := fun n hn m hm => flatF_ok hds _ _ (hds.of hn) m hm

theorem GG_out (ds : List D) {n : Nat} (h : ds.length ≤ n) : GG ds n = [] := by
  unfold GG
  have : ofOf ds n = .mk 0 0 [] := by
    unfold ofOf
    rw [List.getD_eq_getElem?_getD, List.getElem?_eq_none h]
    rfl
  rw [this, flatF_none _ _ _ _ _ (Or.inl rfl)]

theorem rch_congr {F F' : Nat → List Nat} (h : ∀ n x, x ∈ F n ↔ x ∈ F' n) {a b : Nat} : Rch F noMk a b ↔ Rch F' noMk a b := by
  constructor
  · intro hr
    induction hr with
    | one _ hb => exact .one rfl ((h _ _).1 hb)
    | more _ hb _ ih => exact .more rfl ((h _ _).1 hb) ih
  · intro hr
    induction hr with
    | one _ hb => exact .one rfl ((h _ _).2 hb)
    | more _ hb _ ih => exact .more rfl ((h _ _).2 hb) ih

theorem holds_mem {ds : List D} {gs : List (List Nat)} (h : HoldsOk ds gs) (hl : gs.length = ds.length) (n x : Nat) : x ∈ gF gs n ↔ x ∈ GG ds n := by
  unfold gF
  rcases Nat.lt_or_ge n gs.length with hn | hn
  · rw [List.getD_eq_getElem?_getD, List.getElem?_eq_getElem hn]
    exact h.mem n _ (List.getElem?_eq_getElem hn) x
  · rw [List.getD_eq_getElem?_getD, List.getElem?_eq_none hn, GG_out ds (by omega)]
    simp
theorem holds_gs {ds : List D} {gs : List (List Nat)} (h : HoldsOk ds gs) (hl : gs.length = ds.length) : GsOk gs := ⟨fun n hn => by
  unfold gF
  rw [List.getD_eq_getElem?_getD, List.getElem?_eq_getElem hn, hl]
  exact h.uni n _ (List.getElem?_eq_getElem hn)⟩
theorem holds_onC {ds : List D} {gs : List (List Nat)} (h : HoldsOk ds gs) (hl : gs.length = ds.length) (n : Nat) : onC (gF gs) n = true ↔ Rch (GG ds) noMk n n := by
  rw [onC_iff]; exact rch_congr (holds_mem h hl)
theorem holds_reB {ds : List D} {gs : List (List Nat)} (h : HoldsOk ds gs) (hl : gs.length = ds.length) (n : Nat) : reB (gF gs) n = true ↔ ∃ x, (x = n ∨ Rch (GG ds) noMk n x) ∧ Rch (GG ds) noMk x x := by
  rw [reB_iff]
  constructor
  · rintro ⟨x, h1, h2⟩
    exact ⟨x, h1.imp id (rch_congr (holds_mem h hl)).1, (rch_congr (holds_mem h hl)).1 h2⟩
  · rintro ⟨x, h1, h2⟩
    exact ⟨x, h1.imp id (rch_congr (holds_mem h hl)).2, (rch_congr (holds_mem h hl)).2 h2⟩

theorem allB_not {xs : List Bool} {what : Bool} {n : Int} (h : (!what) ∈ xs) : allB xs what n = false := by
  unfold allB
  have : xs.all (· == what) = false := by
    rw [List.all_eq_false]
    exact ⟨!what, h, by cases what <;> simp⟩
  rw [this]
  rfl

theorem all_no (v : Value) (xs : List Bool) (n : Int) (what : Bool) (w : World) (h : SliceV w v xs.length (xs.map Value.bool)) (hb : (!what) ∈ xs) :
    Calls Try.prog 18 #[v, .int .i64 n, .bool what] w fun e w' => e = .returned (.bool false) ∧ w = w' :=
  (all_sv v xs n what w h).mono fun e w' ⟨h1, h2⟩ => ⟨by rw [h1, allB_not hb], h2⟩

/-- What the first lines of these statements leave: the declarations, and the lists of what they contain. -/
structure Start (ds : List D) (gs : List (List Nat)) : Prop where
  ok : DOk ds
  h8 : ds.length ≤ 8
  gl : gs.length = ds.length
  ho : HoldsOk ds gs

theorem LLO.form {w : World} {base : Nat} {v : Value} {xss : List (List Int)} (h : LLO w base v xss) : ∃ a c, v = .slice a xss.length c ∧ xss.length ≤ c ∧ c ≤ 9223372036854775807 := by
  obtain ⟨vs, h1, _⟩ := h
  obtain ⟨a, c, rfl, q1, q2, _⟩ := own_slice h1
  exact ⟨a, c, rfl, q1, by simpa [maxLen] using q2⟩

end Go.Proofs.Ytnaedpfaeioolaa
