/- What came in, a slice of declarations, reads as a list of them. -/
import Derived.Test.YtnaedpfaeioolaaVp
import Derived.ProofKit
import Derived.OpenShut
import Derived.ChangeOld
import Derived.Deep.Slices
namespace Go.Proofs.Ytnaedpfaeioolaa
open Go.ChangeShapes Go.WideShapes Go.RowKit
set_option linter.unusedVariables false

theorem choose_list {α : Type} {P : Nat → α → Prop} : ∀ n : Nat, (∀ i, i < n → ∃ x, P i x) → ∃ l : List α, l.length = n ∧ ∀ (i : Nat) x, l[i]? = some x → P i x
  | 0, _ => ⟨[], rfl, by intro i x h; simp at h⟩
  | n + 1, h => by
    obtain ⟨l, hl, hp⟩ := choose_list n fun i hi => h i (by omega)
    obtain ⟨y, hy⟩ := h n (by omega)
    refine ⟨l ++ [y], by simp [hl], fun i x hx => ?_⟩
    by_cases hi : i < n
    · rw [List.getElem?_append_left (by omega)] at hx
      exact hp i x hx
    · have hin : i = n := by
        have := (List.getElem?_eq_some_iff.1 hx).1
        simp at this
        omega
      subst hin
      rw [List.getElem?_append_right (by omega), hl] at hx
      simp at hx
      subst hx
      exact hy

theorem add_zero_addr (b o s : Nat) : (⟨b, o, none⟩ : Addr).add s = ⟨b, o + s, none⟩ := by
  unfold Addr.add
  split <;> simp_all

section
variable {H : Type} {enc : TypeId × Value → H} {w : World} {base : Nat} {spare : Nat → Bool} {held : Bool}

theorem c45 : Try.prog.cellsOf 45 = 3 := by kernel_rfl
theorem c47 : Try.prog.cellsOf 47 = 4 := by kernel_rfl
theorem c3 : Try.prog.cellsOf 3 = 1 := by kernel_rfl
theorem c4 : Try.prog.cellsOf 4 = 1 := by kernel_rfl
theorem c43 : Try.prog.cellsOf 43 = 1 := by kernel_rfl

set_option maxRecDepth 100000 in
theorem tree_in : ∀ (fuel : Nat) (cs : List Value) (x : DataW H × List MemPlace), DataW.trod enc Try.prog w base spare held fuel 45 cs = some x → ∃ (p : V3) (t : T), cs = [p.1, p.2.1, p.2.2] ∧ TV w Any (agg3 p) t := by
  intro fuel
  induction fuel using Nat.strongRecOn with
  | _ fuel ih =>
    intro cs x h
    obtain ⟨xs, n, rfl, _, hcl, hxl, hf⟩ := DataW.trod_struct Try.underlying45 h
    rw [c45] at hcl
    match cs, hcl with
    | [u0, u1, u2], _ =>
      have f0 : DataW.trod enc Try.prog w base spare held n 3 (([u0, u1, u2].drop 0).take (Try.prog.cellsOf 3)) = xs[0]? := hf 0 _ rfl
      have f1 : DataW.trod enc Try.prog w base spare held n 3 (([u0, u1, u2].drop 1).take (Try.prog.cellsOf 3)) = xs[1]? := hf 1 _ rfl
      have f2 : DataW.trod enc Try.prog w base spare held n 43 (([u0, u1, u2].drop 2).take (Try.prog.cellsOf 43)) = xs[2]? := hf 2 _ rfl
      rw [c3] at f0 f1
      rw [c43] at f2
      change DataW.trod enc Try.prog w base spare held n 3 [u0] = xs[0]? at f0
      change DataW.trod enc Try.prog w base spare held n 3 [u1] = xs[1]? at f1
      change DataW.trod enc Try.prog w base spare held n 43 [u2] = xs[2]? at f2
      have hxl3 : xs.length = 3 := hxl
      obtain ⟨k, e0, _, _⟩ := DataW.trod_int Try.underlying3 (f0.trans (List.getElem?_eq_getElem (by omega)))
      obtain ⟨m, e1, _, _⟩ := DataW.trod_int Try.underlying3 (f1.trans (List.getElem?_eq_getElem (by omega)))
      simp at e0 e1
      subst e0 e1
      have f2' := f2.trans (List.getElem?_eq_getElem (show 2 < xs.length by omega))
      rcases DataW.trod_slice Try.underlying43 f2' with ⟨e2, _⟩ | ⟨a, len, cap, elems, rest, n', rfl, e2, _, hb, hl, hm, hlen, hel, _, _⟩
      · simp at e2
        subst e2
        exact ⟨(_, _, _), .mk k m [], rfl, TV.leaf _ _ k m⟩
      · simp at e2
        subst e2
        obtain ⟨l, hll, hp⟩ := choose_list (P := fun i (q : V3 × T) => (∀ j, j < 3 → w.cell? (a.add (i * 3 + j)) = [q.1.1, q.1.2.1, q.1.2.2][j]?) ∧ TV w Any (agg3 q.1) q.2) len fun i hi => by
          have hi' := hel i hi
          rw [List.getElem?_eq_getElem (show i < elems.length by omega), c45] at hi'
          cases hcs : w.cells? base (a.add (i * 3)) 3 with
          | none => rw [hcs] at hi'; simp at hi'
          | some cs' =>
            rw [hcs] at hi'
            simp only [Option.bind_some] at hi'
            obtain ⟨p, t, rfl, ht⟩ := ih n' (by omega) cs' _ hi'
            obtain ⟨_, _, hat⟩ := World.cells?_some hcs
            exact ⟨(p, t), fun j hj => by rw [← Go.Deep.add_add]; exact hat j hj, ht⟩
        refine ⟨(_, _, _), .mk k m (l.map (·.2)), rfl, ?_⟩
        have hlm : (l.map (·.2)).length = len := by simpa using hll
        show TV w Any (.agg #[.int .i64 k, .int .i64 m, .slice (some a) len cap]) _
        rw [← hlm]
        refine .mk k m (some a) cap (l.map (·.2)) (l.map (·.1)) (by simp) (by omega) hm ?_ (fun _ _ _ _ => trivial) ?_
        · obtain ⟨b, o, s⟩ := a
          cases s with
          | some q =>
            by_cases hl0 : l = []
            · subst hl0; exact Row.nil _ _
            · have hpos : 0 < l.length := List.length_pos_iff.2 hl0
              have := (hp 0 _ (List.getElem?_eq_getElem hpos)).1 0 (by omega)
              simp [Addr.add, World.cell?] at this
              split at this <;> simp at this
          | none =>
            have key : ∀ (ls : List (V3 × T)) (s : Nat), (∀ (i : Nat) q, ls[i]? = some q → ∀ j, j < 3 → w.cell? ⟨b, o + ((s + i) * 3 + j), none⟩ = [q.1.1, q.1.2.1, q.1.2.2][j]?) → ∀ j u, (flat3 (ls.map (·.1)))[j]? = some u → w.cell? ⟨b, o + s * 3 + j, none⟩ = some u := by
              intro ls
              induction ls with
              | nil => intro s _ j u hj; simp [flat3] at hj
              | cons q ls ihl =>
                intro s hq j u hj
                match j, hj with
                | 0, hj => rw [show o + s * 3 + 0 = o + ((s + 0) * 3 + 0) from by omega, hq 0 q rfl 0 (by omega)]; simpa [flat3] using hj
                | 1, hj => rw [show o + s * 3 + 1 = o + ((s + 0) * 3 + 1) from by omega, hq 0 q rfl 1 (by omega)]; simpa [flat3] using hj
                | 2, hj => rw [show o + s * 3 + 2 = o + ((s + 0) * 3 + 2) from by omega, hq 0 q rfl 2 (by omega)]; simpa [flat3] using hj
                | j + 3, hj =>
                  have := ihl (s + 1) (fun i q' hq' j' hj' => by
                    have := hq (i + 1) q' (by simpa using hq') j' hj'
                    rw [← this]; congr 2; omega) j u (by simpa [flat3] using hj)
                  rw [← this]; congr 2; omega
            intro j u hj
            refine ⟨b, o, rfl, ?_⟩
            have := key l 0 (fun i q hq j' hj' => by
              have := (hp i q hq).1 j' hj'
              rw [add_zero_addr] at this
              rw [← this]; congr 2; omega) j u hj
            simpa using this
        · intro i p t hpi hti
          rw [List.getElem?_map] at hpi hti
          cases hq : l[i]? with
          | none => rw [hq] at hpi; simp at hpi
          | some q =>
            rw [hq] at hpi hti
            simp at hpi hti
            subst hpi hti
            exact (hp i q hq).2

set_option maxRecDepth 100000 in
theorem decl_in (fuel : Nat) (cs : List Value) (x : DataW H × List MemPlace) (h : DataW.trod enc Try.prog w base spare held fuel 47 cs = some x) : ∃ (q : V4) (d : D), cs = [q.1, q.2.1, q.2.2.1, q.2.2.2] ∧ q.1 = .bool d.alias ∧ TV w Any (agg3 q.2) d.of := by
  obtain ⟨xs, n, rfl, _, hcl, hxl, hf⟩ := DataW.trod_struct Try.underlying47 h
  rw [c47] at hcl
  match cs, hcl with
  | [u0, u1, u2, u3], _ =>
    have f0 : DataW.trod enc Try.prog w base spare held n 4 (([u0, u1, u2, u3].drop 0).take (Try.prog.cellsOf 4)) = xs[0]? := hf 0 _ rfl
    have f1 : DataW.trod enc Try.prog w base spare held n 45 (([u0, u1, u2, u3].drop 1).take (Try.prog.cellsOf 45)) = xs[1]? := hf 1 _ rfl
    rw [c4] at f0
    rw [c45] at f1
    change DataW.trod enc Try.prog w base spare held n 4 [u0] = xs[0]? at f0
    change DataW.trod enc Try.prog w base spare held n 45 [u1, u2, u3] = xs[1]? at f1
    have hxl2 : xs.length = 2 := hxl
    obtain ⟨b, e0, _⟩ := DataW.trod_bool Try.underlying4 (f0.trans (List.getElem?_eq_getElem (by omega)))
    simp at e0
    subst e0
    obtain ⟨p, t, e1, ht⟩ := tree_in _ _ _ (f1.trans (List.getElem?_eq_getElem (show 1 < xs.length by omega)))
    simp at e1
    obtain ⟨rfl, rfl, rfl⟩ := e1
    exact ⟨(.bool b, p), ⟨b, t⟩, rfl, rfl, ht⟩

set_option maxRecDepth 100000 in
/-- A slice of declarations that came in reads as a list. -/
theorem decls_in {a : Option Addr} {len cap : Nat} {d : DataW H} {p : List MemPlace} (h : DataW.Trod enc Try.prog w base spare held 32 (.slice a len cap) d p) : ∃ ds, DV w (.slice a len cap) ds ∧ ds.length = len := by
  obtain ⟨fuel, hf⟩ := h
  rcases DataW.trod_slice Try.underlying32 hf with ⟨e, _⟩ | ⟨a', len', cap', elems, rest, n', rfl, e, _, hb, hl, hm, hlen, hel, _, _⟩
  · simp [Value.cells] at e
    obtain ⟨rfl, rfl, rfl⟩ := e
    exact ⟨[], ⟨none, 0, [], rfl, Nat.le_refl _, Nat.zero_le _, Row.nil _ _, DVs.nil _ _⟩, rfl⟩
  · simp [Value.cells] at e
    obtain ⟨rfl, rfl, rfl⟩ := e
    obtain ⟨l, hll, hp⟩ := choose_list (P := fun i (q : V4 × D) => (∀ j, j < 4 → w.cell? (a'.add (i * 4 + j)) = [q.1.1, q.1.2.1, q.1.2.2.1, q.1.2.2.2][j]?) ∧ q.1.1 = .bool q.2.alias ∧ TV w Any (agg3 q.1.2) q.2.of) len fun i hi => by
      have hi' := hel i hi
      rw [List.getElem?_eq_getElem (show i < elems.length by omega), c47] at hi'
      cases hcs : w.cells? base (a'.add (i * 4)) 4 with
      | none => rw [hcs] at hi'; simp at hi'
      | some cs' =>
        rw [hcs] at hi'
        simp only [Option.bind_some] at hi'
        obtain ⟨q, d, rfl, h1, h2⟩ := decl_in n' cs' _ hi'
        obtain ⟨_, _, hat⟩ := World.cells?_some hcs
        exact ⟨(q, d), fun j hj => by rw [← Go.Deep.add_add]; exact hat j hj, h1, h2⟩
    have hlm : (l.map (·.2)).length = len := by simpa using hll
    refine ⟨l.map (·.2), ⟨some a', cap, l.map (·.1), by rw [hlm], by omega, hm, ?_, by simp, ?_⟩, hlm⟩
    · obtain ⟨b, o, s⟩ := a'
      cases s with
      | some q =>
        by_cases hl0 : l = []
        · subst hl0; exact Row.nil _ _
        · have hpos : 0 < l.length := List.length_pos_iff.2 hl0
          have := (hp 0 _ (List.getElem?_eq_getElem hpos)).1 0 (by omega)
          simp [Addr.add, World.cell?] at this
          split at this <;> simp at this
      | none =>
        have key : ∀ (ls : List (V4 × D)) (s : Nat), (∀ (i : Nat) q, ls[i]? = some q → ∀ j, j < 4 → w.cell? ⟨b, o + ((s + i) * 4 + j), none⟩ = [q.1.1, q.1.2.1, q.1.2.2.1, q.1.2.2.2][j]?) → ∀ j u, (flat4 (ls.map (·.1)))[j]? = some u → w.cell? ⟨b, o + s * 4 + j, none⟩ = some u := by
          intro ls
          induction ls with
          | nil => intro s _ j u hj; simp [flat4] at hj
          | cons q ls ihl =>
            intro s hq j u hj
            match j, hj with
            | 0, hj => rw [show o + s * 4 + 0 = o + ((s + 0) * 4 + 0) from by omega, hq 0 q rfl 0 (by omega)]; simpa [flat4] using hj
            | 1, hj => rw [show o + s * 4 + 1 = o + ((s + 0) * 4 + 1) from by omega, hq 0 q rfl 1 (by omega)]; simpa [flat4] using hj
            | 2, hj => rw [show o + s * 4 + 2 = o + ((s + 0) * 4 + 2) from by omega, hq 0 q rfl 2 (by omega)]; simpa [flat4] using hj
            | 3, hj => rw [show o + s * 4 + 3 = o + ((s + 0) * 4 + 3) from by omega, hq 0 q rfl 3 (by omega)]; simpa [flat4] using hj
            | j + 4, hj =>
              have := ihl (s + 1) (fun i q' hq' j' hj' => by
                have := hq (i + 1) q' (by simpa using hq') j' hj'
                rw [← this]; congr 2; omega) j u (by simpa [flat4] using hj)
              rw [← this]; congr 2; omega
        intro j u hj
        refine ⟨b, o, rfl, ?_⟩
        have := key l 0 (fun i q hq j' hj' => by
          have := (hp i q hq).1 j' hj'
          rw [add_zero_addr] at this
          rw [← this]; congr 2; omega) j u hj
        simpa using this
    · intro i p t hpi hti
      rw [List.getElem?_map] at hpi hti
      cases hq : l[i]? with
      | none => rw [hq] at hpi; simp at hpi
      | some q =>
        rw [hq] at hpi hti
        simp at hpi hti
        subst hpi hti
        exact (hp i q hq).2
end

end Go.Proofs.Ytnaedpfaeioolaa
