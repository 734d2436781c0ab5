/- The copy of a list of declarations: append([]impl.Decl{}, l...). -/
import Derived.Test.YtnaedpfaeioolaaVq
namespace Go.Proofs.Ytnaedpfaeioolaa
open Go.RowKit
set_option linter.unusedVariables false

section
variable {P : Program}

theorem run_append_none' (w : World) (base : Nat) (t ty e : TypeId) (i : TypeInfo) (size : Nat) (ht : P.underlying t = some (.slice e)) (hi : P.info? e = some i)
    (v : Value) (n : Nat) (xs : List Value) (hown : w.ownsRow base e size v n xs) (c : Nat) :
    (Builtin.append_ #[t, t] ty #[v, .slice none 0 c]).run P w = .ok v w := by
  rcases hown.2 with ⟨rfl, rfl⟩ | ⟨g, cap, cur, rfl, _, _, hnc, _⟩
  · simp [Builtin.append_, run_underlying ht, sizeOf, typeInfo, hi, Builtin.lenOf, Builtin.firstCells]
  · simp [Builtin.append_, run_underlying ht, sizeOf, typeInfo, hi, Builtin.lenOf, Builtin.firstCells, hnc, storeCells]

/-- A list of declarations that was there before w0's end is appended to an empty one of the call's own. -/
theorem run_copy (w0 W : World) (E : Nat) (t ty : TypeId) (ht : P.underlying t = some (.slice 47)) (i : TypeInfo) (hi : P.info? 47 = some i) (hz : i.zero = some (.agg #[.bool false, .int .i64 0, .int .i64 0, .slice none 0 0])) (hsize : i.size = 4) (hby : i.bytes = 48)
    (hE : w0.heap.size ≤ E) (hb : Below w0.heap.size w0 W) (hown : W.ownsRow w0.heap.size 47 4 (.slice (some ⟨E, 0, none⟩) 0 0) 0 []) (lv : Value) (ds : List D) (hdv : DV w0 lv ds) (hl : ds.length ≤ 1000) :
    ∃ v' w' qs, (Builtin.append_ #[t, t] ty #[.slice (some ⟨E, 0, none⟩) 0 0, lv]).run P W = .ok v' w' ∧ Kids4 w' w0.heap.size 47 v' qs ds ∧ Below w0.heap.size w0 w' := by
  obtain ⟨a, cap, ps, rfl, h1, h2, hrow, hds⟩ := id hdv
  have hrowW := hrow.ext hb
  by_cases h0 : ds.length = 0
  · have hd0 : ds = [] := List.eq_nil_of_length_eq_zero h0
    subst hd0
    cases a with
    | none => exact ⟨_, _, [], run_append_none' W w0.heap.size t ty 47 i 4 ht hi _ 0 [] hown cap, ⟨hown, DVs.nil _ _⟩, hb⟩
    | some a =>
      obtain ⟨w', hr, ho, hg⟩ := run_append_fits (P := P) W w0.heap.size t ty 47 i 4 ht hi hsize E 0 0 [] hown a 0 cap [] rfl (by intro j u h; simp at h) (by simp) (Nat.le_refl _)
      refine ⟨_, w', [], hr, ⟨ho, DVs.nil _ _⟩, ?_⟩
      refine hb.grown hg hb.size fun k hk => ?_
      simp at hk
      omega
  · have hps : ps.length = ds.length := hds.1
    have hfl := flat4_len ps
    obtain ⟨u0, hu0⟩ : ∃ u, (flat4 ps)[0]? = some u := ⟨_, List.getElem?_eq_getElem (by omega)⟩
    obtain ⟨b, o, rfl, _⟩ := hrowW 0 u0 hu0
    have hone : ∀ u ∈ flat4 ps, u.oneCell' = true := by
      intro u hu
      have : ∀ (qs : List V4) (ds : List D), DVs w0 Any qs ds → ∀ u ∈ flat4 qs, u.oneCell' = true := by
        intro qs
        induction qs with
        | nil => intro ds _ u hu; simp [flat4] at hu
        | cons q qs ih =>
          intro ds h u hu
          cases ds with
          | nil => have := h.1; simp at this
          | cons d ds =>
            have hq := h.2 0 q d rfl rfl
            have h' : DVs w0 Any qs ds := ⟨by have := h.1; simpa using this, fun i p d hp hd => h.2 (i + 1) p d (by simpa using hp) (by simpa using hd)⟩
            simp only [flat4, List.mem_cons] at hu
            rcases hu with rfl | rfl | rfl | rfl | hu
            · rw [hq.1]; rfl
            · exact hq.2.one _ (by simp)
            · exact hq.2.one _ (by simp)
            · exact hq.2.one _ (by simp)
            · exact ih ds h' u hu
      exact this ps ds hds u hu
    obtain ⟨v', w', hr, g⟩ := run_append_grew (P := P) W w0.heap.size t ty 47 i _ 4 48 ht hi hz hsize hby rfl (by decide) _ 0 [] hown ⟨b, o, none⟩ ds.length cap (flat4 ps) (by omega) (by omega)
      (fun j u hj => by
        obtain ⟨b', o', e, hc⟩ := hrowW j u hj
        simp at e
        obtain ⟨rfl, rfl⟩ := e
        unfold Addr.add
        split
        · rename_i h; subst h; exact hc
        · exact hc) hone (by simp only [maxLen]; omega) (by omega) hb.size
    refine ⟨v', w', ps, hr, ⟨by simpa using g.own, ?_⟩, ?_⟩
    · have k1 : DVs W (fun b => b < w0.heap.size) ps ds := (hds.mono (S' := fun b => b < w0.heap.size) fun b _ hlt => hlt).ext hb
      have hlow : ∀ b, b < w0.heap.size → w'.heap[b]? = W.heap[b]? := fun b hlt => g.by_.block b (by have := hb.size; omega) fun e => by simp [Value.ownBlock] at e; omega
      refine (k1.keep fun b hb1 _ => hlow b hb1).mono fun b hb1 _ e => ?_
      have := (g.own.lt b e).1
      omega
    · refine hb.grown g.by_ hb.size fun k hk => ?_
      simp [Value.ownBlock] at hk
      omega

/-- The same in a list of operations. -/
theorem wpList_copy {ops : Array Oper} {rest : List Oper} {o : Oper} {a : Act} {Q : Exit → Act → World → Prop} (w0 W : World) (hgd : o.guard = none) (s x : Operand) (t : TypeId)
    (ho : o.op = .call { callee := .builtin .append, args := #[s, x], argTypes := #[t, t] }) (ht : P.underlying t = some (.slice 47))
    (hinfo : (P.info? 47).map (fun i => (i.zero, i.size, i.bytes)) = some (some (.agg #[.bool false, .int .i64 0, .int .i64 0, .slice none 0 0]), 4, 48)) (E : Nat) (lv : Value) (hs : a.eval s = .slice (some ⟨E, 0, none⟩) 0 0) (hx : a.eval x = lv)
    (hE : w0.heap.size ≤ E) (hb : Below w0.heap.size w0 W) (hown : W.ownsRow w0.heap.size 47 4 (.slice (some ⟨E, 0, none⟩) 0 0) 0 []) (ds : List D) (hdv : DV w0 lv ds) (hl : ds.length ≤ 1000)
    (h : ∀ v' w' qs, Kids4 w' w0.heap.size 47 v' qs ds → Below w0.heap.size w0 w' → wpList P ops Q rest (a.put o.dst v') w') :
    wpList P ops Q (o :: rest) a W := by
  obtain ⟨i, hi, hz, hsize, hby⟩ := info_parts hinfo
  refine wpList_plain hgd fun K hK => ?_
  obtain ⟨v', w', qs, hr, hk, hb'⟩ := run_copy w0 W E t o.type ht i hi hz hsize hby hE hb hown lv ds hdv hl
  unfold Oper.wp execOp
  simp only [ho, resolve, invoke, builtin, Sem.run_bind, Sem.run_pure, Result.andThen_ok, List.map_toArray, List.map_cons, List.map_nil, hs, hx, hr]
  exact hK _ _ (h v' w' qs hk hb')
end

/-- The first k of them are turned. -/
def pm (f : Nat → D → D) (xs : List D) (k : Nat) : List D := xs.mapIdx fun i d => if i < k then f i d else d
theorem pm_len (f : Nat → D → D) (xs : List D) (k : Nat) : (pm f xs k).length = xs.length := by simp [pm]
theorem pm_zero (f : Nat → D → D) (xs : List D) : pm f xs 0 = xs := by
  apply List.ext_getElem (by simp [pm])
  intro i h1 h2
  simp [pm]
theorem pm_all (f : Nat → D → D) (xs : List D) : pm f xs xs.length = xs.mapIdx f := by
  apply List.ext_getElem (by simp [pm])
  intro i h1 h2
  simp only [List.length_mapIdx] at h2
  simp [pm, h2]
theorem pm_at (f : Nat → D → D) (xs : List D) {k : Nat} (hk : k < xs.length) : alOf (pm f xs k) k = alOf xs k ∧ ofOf (pm f xs k) k = ofOf xs k := by
  unfold alOf ofOf pm
  simp [List.getD_eq_getElem?_getD, hk]
theorem pm_succ (f : Nat → D → D) (xs : List D) {k : Nat} (hk : k < xs.length) : pm f xs (k + 1) = (pm f xs k).set k (f k ⟨alOf xs k, ofOf xs k⟩) := by
  have hx : (⟨alOf xs k, ofOf xs k⟩ : D) = xs[k] := by unfold alOf ofOf; rw [getD_of hk]
  rw [hx]
  apply List.ext_getElem (by simp [pm])
  intro i h1 h2
  rw [List.getElem_set]
  by_cases hi : k = i
  · subst hi
    simp [pm]
  · simp only [if_neg hi]
    simp only [pm, List.getElem_mapIdx]
    by_cases h3 : i < k
    · rw [if_pos (by omega), if_pos h3]
    · rw [if_neg (by omega), if_neg h3]
theorem pm_skip (f : Nat → D → D) (xs : List D) {k : Nat} (hk : k < xs.length) (h : f k ⟨alOf xs k, ofOf xs k⟩ = ⟨alOf xs k, ofOf xs k⟩) : pm f xs (k + 1) = pm f xs k := by
  rw [pm_succ f xs hk, h]
  have hk' : k < (pm f xs k).length := by rw [pm_len]; exact hk
  have e : (⟨alOf xs k, ofOf xs k⟩ : D) = (pm f xs k)[k] := by
    rw [← (pm_at f xs hk).1, ← (pm_at f xs hk).2]
    unfold alOf ofOf
    rw [getD_of hk']
  rw [e]
  exact List.set_getElem_self hk'

/-- What a loop keeps that turns one after the other. -/
def PLoop (f : Nat → D → D) (xs : List D) (w : World) (v i : Value) (wr : World) : Prop :=
  ∃ (k : Nat) (qs : List V4), k ≤ xs.length ∧ i = .int .i64 k ∧ Kids4 wr w.heap.size 47 v qs (pm f xs k) ∧ Below w.heap.size w wr

end Go.Proofs.Ytnaedpfaeioolaa
