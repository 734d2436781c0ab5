/- What the two statements on cycles of names share: what came in reads as a list; the numbers are names or -1; the literals. No condition. -/
import Derived.Test.YtnaedpfaeioolaaD1
import Derived.Test.YtnaedpfaeioolaaD2
import Derived.Test.YtnaedpfaeioolaaD3
import Derived.Test.YtnaedpfaeioolaaD10
import Derived.Test.YtnaedpfaeioolaaDR
namespace Go.Proofs.Ytnaedpfaeioolaa
open Go.RowKit
set_option linter.unusedVariables false

/-- WHAT THE WALK IS TOLD OF A SLICE OF INTEGERS THAT CAME IN: it is nil; or it leads to a row of 'cap' cells, the numbers 'zs' (the first 'len' are its elements, the rest its spare room), each fitting its kind. -/
def IsRow (k : IntKind) (w : World) (a : Option Addr) (len cap : Nat) (zs : List Int) : Prop :=
  (a = none ∧ len = 0 ∧ cap = 0 ∧ zs = []) ∨
  ∃ x, a = some x ∧ len ≤ cap ∧ cap ≤ maxLen ∧ zs.length = cap ∧ (∀ i, i < zs.length → w.cell? (x.add i) = some (.int k (zs.getD i 0))) ∧ ∀ n ∈ zs, (Lit.int k n).wf = true

/-- What came in reads as a list of integers. -/
theorem row_in {w : World} {a : Option Addr} {len cap : Nat} {zs : List Int} (h : IsRow .i64 w a len cap zs) : (zs.take len).length = len ∧ len ≤ cap ∧ cap ≤ 9223372036854775807 ∧ Row w a ((zs.take len).map (Value.int .i64)) := by
  rcases h with ⟨rfl, rfl, rfl, rfl⟩ | ⟨x, rfl, h1, h2, h3, h4, _⟩
  · exact ⟨rfl, Nat.le_refl _, by omega, Row.nil _ _⟩
  · refine ⟨by rw [List.length_take]; omega, h1, by simpa [maxLen] using h2, ?_⟩
    intro j u hj
    have hjl : j < len := by
      have := (List.getElem?_eq_some_iff.1 hj).1
      simp at this
      omega
    have hu : u = .int .i64 (zs.getD j 0) := by
      rw [List.getElem?_map, List.getElem?_take, if_pos hjl, List.getElem?_eq_getElem (show j < zs.length by omega)] at hj
      simp at hj
      rw [← hj, List.getD_eq_getElem?_getD, List.getElem?_eq_getElem (show j < zs.length by omega)]
      rfl
    obtain ⟨b, o, s⟩ := x
    have h0 := h4 0 (by omega)
    cases s with
    | none =>
      refine ⟨b, o, rfl, ?_⟩
      have := h4 j (by omega)
      rw [hu]
      unfold Addr.add at this
      split at this
      · simp_all
      · simpa using this
    | some q => simp [Addr.add, World.cell?] at h0; split at h0 <;> simp at h0

theorem fine_right (xs : List Int) : Fine (rightL xs) := by
  intro i x hx
  have hl : (rightL xs).length = min xs.length 30 := by simp only [rightL, List.length_map, List.length_take]; omega
  have hi := (List.getElem?_eq_some_iff.1 hx).1
  unfold rightL at hx
  rw [List.getElem?_map] at hx
  obtain ⟨y, _, hy⟩ := Option.map_eq_some_iff.1 hx
  rw [hl]
  subst hy
  have h1 := tmod_bd y (min xs.length 30)
  rw [rightOf_nonneg _ _ h1.1]
  have := emod_bd (y.tmod ((min xs.length 30 : Nat) + 1) + (min xs.length 30 : Nat) + 1) (min xs.length 30)
  omega

theorem right_len (xs : List Int) : (rightL xs).length ≤ 30 := by simp [rightL]; omega

theorem lists_same (v v' : Value) (xss : List (List Int)) (w : World) (h : LL w v xss) (h' : LL w v' xss) :
    Calls Try.prog 16 #[v, v'] w fun e w' => e = .returned (.bool true) ∧ ∃ n, w' = w.drewN n :=
  (lists_ll v v' xss xss w h h').mono fun e w' ⟨h1, h2⟩ => ⟨by rw [h1, ← eqL_true rfl], h2⟩

theorem one_fine : Fine [0] := by
  intro i x hx
  match i, hx with
  | 0, hx => simp at hx; subst hx; simp
theorem one_cycles : (dcAll [0] ([0] : List Int).length).2.2 = [[0]] := by rw [dc_cycles one_fine]; rfl

/-- The literal [][]int{{0}}. -/
theorem lit_ll (w : World) : LL ((w.alloc (.cells #[.int .i64 0] 3)).alloc (.cells #[.slice (some ⟨w.heap.size, 0, none⟩) 1 1] 22)) (.slice (some ⟨w.heap.size + 1, 0, none⟩) 1 1) [[0]] := by
  refine ⟨[.slice (some ⟨w.heap.size, 0, none⟩) 1 1], ⟨_, _, rfl, Nat.le_refl _, by unfold maxLen; simp, ?_⟩, rfl, ?_⟩
  · intro j u hj
    match j, hj with
    | 0, hj =>
      simp at hj
      subst hj
      exact ⟨_, _, rfl, by rw [cell_of (alloc_at (by simp))]; rfl⟩
  · intro i u xs hu hx
    match i, hu, hx with
    | 0, hu, hx =>
      simp at hu hx
      subst hu
      subst hx
      refine ⟨_, _, rfl, Nat.le_refl _, by unfold maxLen; simp, ?_⟩
      intro j u hj
      match j, hj with
      | 0, hj =>
        simp at hj
        subst hj
        exact ⟨_, _, rfl, by rw [cell_of (w := (w.alloc (.cells #[.int .i64 0] 3)).alloc (.cells #[.slice (some ⟨w.heap.size, 0, none⟩) 1 1] 22)) (c := #[.int .i64 0]) (e := 3) (fr := (0, 0)) (by rw [alloc_lt (by simp), alloc_at rfl])]; rfl⟩

theorem lit_row (w : World) : Row (w.alloc (.cells #[.int .i64 0] 3)) (some ⟨w.heap.size, 0, none⟩) (([0] : List Int).map (Value.int .i64)) := by
  intro j u hj
  match j, hj with
  | 0, hj =>
    simp at hj
    subst hj
    exact ⟨_, _, rfl, by rw [cell_of (alloc_at rfl)]; rfl⟩

theorem all_true (v : Value) (xs : List Bool) (n : Int) (what : Bool) (w : World) (h : SliceV w v xs.length (xs.map Value.bool)) (hb : allB xs what n = true) :
    Calls Try.prog 18 #[v, .int .i64 n, .bool what] w fun e w' => e = .returned (.bool true) ∧ w = w' :=
  (all_sv v xs n what w h).mono fun e w' ⟨h1, h2⟩ => ⟨by rw [h1, hb], h2⟩

end Go.Proofs.Ytnaedpfaeioolaa
